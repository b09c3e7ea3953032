/- DERIVED: THE SHELF's CONTRACTS AT THIS DUMP, IN PLAIN WORDS (tools/lay-plain.mjs out of 'TryzKeepShelf.lean', which tools/lay-shelf.mjs wrote): THE SAME DECLARATIONS UNDER THE SAME NAMES: 'import', 'namespace', 'open', 'def', 'theorem' AND NOTHING ELSE: no command of the shelf's: FOR A HAND-IN. Each laying: the table of numbers ('.._ren') and one theorem, a field a fact of the dump's own or the kernel's comparison; each contract: ONE APPLICATION. unicode.SimpleFold as a plain function over the laid tables, and that each of its orbits closes within five steps (the kernel looks at every rune that the tables name). No condition. Printed by gen_fo1.py. -/
import Derived.Shelf.Small.Bits
import Derived.Shelf.Strings.Prefix
import Derived.Shelf.Bits.Mul64
import Derived.Shelf.Unicode.DecodeSlow
import Derived.Shelf.Unicode.DecodeAny
import Derived.Shelf.Unicode.CaseLookup
import Derived.Shelf.Unicode.CaseConvert
import Derived.Shelf.Unicode.CaseTo
import Derived.Shelf.Unicode.CaseLaid
import Derived.Shelf.Unicode.Latin
import Derived.Test.YtgolhmiocjpohaaGreatDoorProg
import Derived.KernelRfl
set_option linter.unusedVariables false
namespace Go.Proofs
open Go.Shelf
def Tryz.lays129_ren : Go.Shelf.Ren := ⟨fun | 129 => 108 | n => n, fun | 53 => 198 | 3 => 3 | 4 => 4 | 46 => 154 | 5 => 5 | 9 => 9 | n => n, fun | n => n⟩
theorem Tryz.lays129 : Go.Proofs.Lays.n129 Tryz.prog Tryz.lays129_ren := {
 mixed := by kernel_rfl
 f129 := Tryz.func108.trans (congrArg some (by kernel_rfl))
 t3 := Tryz.underlying3
 a3 := Tryz.isAgg3
 z3 := Tryz.sizeOf3
 v3 := Tryz.zeroValue3
 t4 := Tryz.underlying4
 a4 := Tryz.isAgg4
 z4 := Tryz.sizeOf4
 v4 := Tryz.zeroValue4
 t5 := Tryz.underlying5
 a5 := Tryz.isAgg5
 z5 := Tryz.sizeOf5
 v5 := Tryz.zeroValue5
 t9 := Tryz.underlying9
 a9 := Tryz.isAgg9
 z9 := Tryz.sizeOf9
 v9 := Tryz.zeroValue9
 t46 := Tryz.underlying154
 a46 := Tryz.isAgg154
 z46 := Tryz.sizeOf154
 v46 := Tryz.zeroValue154
 t53 := Tryz.underlying198
 a53 := Tryz.isAgg198
 z53 := Tryz.sizeOf198
 v53 := Tryz.zeroValue198 }
/-- bits.Len64: "Len64 returns the minimum number of bits required to represent x; the result is 0 for x == 0.": IT RETURNS 'Lib.bitLen x'; the world is as it was. ('h0', 'h1': x is a uint64.) (LAID: no walk: one application.) -/
theorem Tryz.bits_Len64 (x : Int) (w : World) (h0 : 0 ≤ x) (h1 : x ≤ 18446744073709551615) :
  Calls Tryz.prog 108 #[.int .u64 x] w fun e w' => e = .returned (.int .i64 (Lib.bitLen x.toNat)) ∧ w' = w := Any.bits_Len64 Tryz.lays129 x w h0 h1
def Tryz.lays206_ren : Go.Shelf.Ren := ⟨fun | 206 => 178 | n => n, fun | 9 => 9 | 4 => 4 | 3 => 3 | n => n, fun | n => n⟩
theorem Tryz.lays206 : Go.Proofs.Lays.n206 Tryz.prog Tryz.lays206_ren := {
 mixed := by kernel_rfl
 f206 := Tryz.func178.trans (congrArg some (by kernel_rfl))
 t3 := Tryz.underlying3
 a3 := Tryz.isAgg3
 z3 := Tryz.sizeOf3
 v3 := Tryz.zeroValue3
 t4 := Tryz.underlying4
 a4 := Tryz.isAgg4
 z4 := Tryz.sizeOf4
 v4 := Tryz.zeroValue4
 t9 := Tryz.underlying9
 a9 := Tryz.isAgg9
 z9 := Tryz.sizeOf9
 v9 := Tryz.zeroValue9 }
open Go.RowKit Go.Lib in
/-- internal/stringslite.HasPrefix (what strings.HasPrefix calls). (LAID: no walk: one application.) -/
theorem Tryz.stringslite_HasPrefix (s p : ByteArray) (w : World) :
  Calls Tryz.prog 178 #[.string s, .string p] w fun e w' => e = .returned (.bool (Lib.hasPrefix s.data.toList p.data.toList)) ∧ w' = w := Any.stringslite_HasPrefix Tryz.lays206 s p w
def Tryz.lays99_ren : Go.Shelf.Ren := ⟨fun | 99 => 151 | 206 => 178 | n => n, fun | 9 => 9 | 4 => 4 | 3 => 3 | n => n, fun | n => n⟩
theorem Tryz.lays99 : Go.Proofs.Lays.n99 Tryz.prog Tryz.lays99_ren := {
 mixed := by kernel_rfl
 f99 := Tryz.func151.trans (congrArg some (by kernel_rfl))
 f206 := Tryz.func178.trans (congrArg some (by kernel_rfl))
 t3 := Tryz.underlying3
 a3 := Tryz.isAgg3
 z3 := Tryz.sizeOf3
 v3 := Tryz.zeroValue3
 t4 := Tryz.underlying4
 a4 := Tryz.isAgg4
 z4 := Tryz.sizeOf4
 v4 := Tryz.zeroValue4
 t9 := Tryz.underlying9
 a9 := Tryz.isAgg9
 z9 := Tryz.sizeOf9
 v9 := Tryz.zeroValue9 }
open Go.RowKit Go.Lib in
/-- strings.HasPrefix: "HasPrefix reports whether the string s begins with prefix.": IT RETURNS 'Lib.hasPrefix s prefix'; the world is as it was. (LAID: no walk: one application.) -/
theorem Tryz.strings_HasPrefix (s p : ByteArray) (w : World) :
  Calls Tryz.prog 151 #[.string s, .string p] w fun e w' => e = .returned (.bool (Lib.hasPrefix s.data.toList p.data.toList)) ∧ w' = w := Any.strings_HasPrefix Tryz.lays99 s p w
def Tryz.lays207_ren : Go.Shelf.Ren := ⟨fun | 207 => 179 | n => n, fun | 9 => 9 | 4 => 4 | 3 => 3 | n => n, fun | n => n⟩
theorem Tryz.lays207 : Go.Proofs.Lays.n207 Tryz.prog Tryz.lays207_ren := {
 mixed := by kernel_rfl
 f207 := Tryz.func179.trans (congrArg some (by kernel_rfl))
 t3 := Tryz.underlying3
 a3 := Tryz.isAgg3
 z3 := Tryz.sizeOf3
 v3 := Tryz.zeroValue3
 t4 := Tryz.underlying4
 a4 := Tryz.isAgg4
 z4 := Tryz.sizeOf4
 v4 := Tryz.zeroValue4
 t9 := Tryz.underlying9
 a9 := Tryz.isAgg9
 z9 := Tryz.sizeOf9
 v9 := Tryz.zeroValue9 }
open Go.RowKit Go.Lib in
/-- internal/stringslite.HasSuffix (what strings.HasSuffix calls). (LAID: no walk: one application.) -/
theorem Tryz.stringslite_HasSuffix (s p : ByteArray) (w : World) (hs : s.size ≤ 9223372036854775807) :
  Calls Tryz.prog 179 #[.string s, .string p] w fun e w' => e = .returned (.bool (Lib.hasSuffix s.data.toList p.data.toList)) ∧ w' = w := Any.stringslite_HasSuffix Tryz.lays207 s p w hs
def Tryz.lays100_ren : Go.Shelf.Ren := ⟨fun | 100 => 152 | 207 => 179 | n => n, fun | 9 => 9 | 4 => 4 | 3 => 3 | n => n, fun | n => n⟩
theorem Tryz.lays100 : Go.Proofs.Lays.n100 Tryz.prog Tryz.lays100_ren := {
 mixed := by kernel_rfl
 f100 := Tryz.func152.trans (congrArg some (by kernel_rfl))
 f207 := Tryz.func179.trans (congrArg some (by kernel_rfl))
 t3 := Tryz.underlying3
 a3 := Tryz.isAgg3
 z3 := Tryz.sizeOf3
 v3 := Tryz.zeroValue3
 t4 := Tryz.underlying4
 a4 := Tryz.isAgg4
 z4 := Tryz.sizeOf4
 v4 := Tryz.zeroValue4
 t9 := Tryz.underlying9
 a9 := Tryz.isAgg9
 z9 := Tryz.sizeOf9
 v9 := Tryz.zeroValue9 }
open Go.RowKit Go.Lib in
/-- strings.HasSuffix: "HasSuffix reports whether the string s ends with suffix.": IT RETURNS 'Lib.hasSuffix s suffix'; the world is as it was. ('hs': no Go string is longer: a caller has it of every string that it was handed.) (LAID: no walk: one application.) -/
theorem Tryz.strings_HasSuffix (s p : ByteArray) (w : World) (hs : s.size ≤ 9223372036854775807) :
  Calls Tryz.prog 152 #[.string s, .string p] w fun e w' => e = .returned (.bool (Lib.hasSuffix s.data.toList p.data.toList)) ∧ w' = w := Any.strings_HasSuffix Tryz.lays100 s p w hs
def Tryz.lays204_ren : Go.Shelf.Ren := ⟨fun | 204 => 58 | 262 => 73 | 313 => 92 | 274 => 77 | 275 => 78 | n => n, fun | 21 => 21 | 4 => 4 | 3 => 3 | 162 => 159 | 203 => 176 | 160 => 157 | 46 => 154 | 0 => 0 | 208 => 192 | 51 => 188 | 206 => 190 | n => n, fun | 13 => 2 | n => n⟩
theorem Tryz.lays204 : Go.Proofs.Lays.n204 Tryz.prog Tryz.lays204_ren := {
 mixed := by kernel_rfl
 f204 := Tryz.func58.trans (congrArg some (by kernel_rfl))
 f262 := Tryz.func73.trans (congrArg some (by kernel_rfl))
 f274 := Tryz.func77.trans (congrArg some (by kernel_rfl))
 f275 := Tryz.func78.trans (congrArg some (by kernel_rfl))
 f313 := Tryz.func92.trans (congrArg some (by kernel_rfl))
 t0 := Tryz.underlying0
 a0 := Tryz.isAgg0
 z0 := Tryz.sizeOf0
 v0 := Tryz.zeroValue0
 t3 := Tryz.underlying3
 a3 := Tryz.isAgg3
 z3 := Tryz.sizeOf3
 v3 := Tryz.zeroValue3
 t4 := Tryz.underlying4
 a4 := Tryz.isAgg4
 z4 := Tryz.sizeOf4
 v4 := Tryz.zeroValue4
 t21 := Tryz.underlying21
 a21 := Tryz.isAgg21
 z21 := Tryz.sizeOf21
 v21 := Tryz.zeroValue21
 t46 := Tryz.underlying154
 a46 := Tryz.isAgg154
 z46 := Tryz.sizeOf154
 v46 := Tryz.zeroValue154
 t51 := Tryz.underlying188
 a51 := Tryz.isAgg188
 z51 := Tryz.sizeOf188
 v51 := Tryz.zeroValue188
 t160 := Tryz.underlying157
 a160 := Tryz.isAgg157
 z160 := Tryz.sizeOf157
 v160 := Tryz.zeroValue157
 t162 := Tryz.underlying159
 a162 := Tryz.isAgg159
 z162 := Tryz.sizeOf159
 v162 := Tryz.zeroValue159
 t203 := Tryz.underlying176
 a203 := Tryz.isAgg176
 z203 := Tryz.sizeOf176
 v203 := Tryz.zeroValue176
 t206 := Tryz.underlying190
 a206 := Tryz.isAgg190
 z206 := Tryz.sizeOf190
 v206 := Tryz.zeroValue190
 t208 := Tryz.underlying192
 a208 := Tryz.isAgg192
 z208 := Tryz.sizeOf192
 v208 := Tryz.zeroValue192
 g13 := by kernel_rfl }
open Go.RowKit Go.Lib in
theorem Tryz.unicode_ToLower (r : Int) (w : World) (h : r ≤ 127) :
  Calls Tryz.prog 58 #[.int .i32 r] w fun e w' => e = .returned (.int .i32 (Lib.toLowerR r)) ∧ w' = w := Any.unicode_ToLower Tryz.lays204 r w h
def Tryz.lays264_ren : Go.Shelf.Ren := ⟨fun | 264 => 198 | n => n, fun | 53 => 198 | 46 => 154 | n => n, fun | n => n⟩
theorem Tryz.lays264 : Go.Proofs.Lays.n264 Tryz.prog Tryz.lays264_ren := {
 mixed := by kernel_rfl
 f264 := Tryz.func198.trans (congrArg some (by kernel_rfl))
 t46 := Tryz.underlying154
 a46 := Tryz.isAgg154
 z46 := Tryz.sizeOf154
 v46 := Tryz.zeroValue154
 t53 := Tryz.underlying198
 a53 := Tryz.isAgg198
 z53 := Tryz.sizeOf198
 v53 := Tryz.zeroValue198 }
open Go.RowKit Go.Lib in
theorem Tryz.bits_Mul64 (x y : Nat) (hx : x < 18446744073709551616) (hy : y < 18446744073709551616) (w : World) :
  Calls Tryz.prog 198 #[.int .u64 x, .int .u64 y] w fun e w' => e = .returned (.tuple #[.int .u64 ((x * y / 18446744073709551616 : Nat) : Int), .int .u64 ((x * y % 18446744073709551616 : Nat) : Int)]) ∧ w' = w := Any.bits_Mul64 Tryz.lays264 x y hx hy w
def Tryz.lays197_ren : Go.Shelf.Ren := ⟨fun | 197 => 60 | 260 => 76 | n => n, fun | 9 => 9 | 21 => 21 | 3 => 3 | 4 => 4 | 5 => 5 | 105 => 136 | 119 => 184 | 0 => 0 | 46 => 154 | 139 => 187 | 138 => 186 | n => n, fun | 3 => 3 | 4 => 4 | n => n⟩
theorem Tryz.lays197 : Go.Proofs.Lays.n197 Tryz.prog Tryz.lays197_ren := {
 mixed := by kernel_rfl
 f197 := Tryz.func60.trans (congrArg some (by kernel_rfl))
 f260 := Tryz.func76.trans (congrArg some (by kernel_rfl))
 t0 := Tryz.underlying0
 a0 := Tryz.isAgg0
 z0 := Tryz.sizeOf0
 v0 := Tryz.zeroValue0
 t3 := Tryz.underlying3
 a3 := Tryz.isAgg3
 z3 := Tryz.sizeOf3
 v3 := Tryz.zeroValue3
 t4 := Tryz.underlying4
 a4 := Tryz.isAgg4
 z4 := Tryz.sizeOf4
 v4 := Tryz.zeroValue4
 t5 := Tryz.underlying5
 a5 := Tryz.isAgg5
 z5 := Tryz.sizeOf5
 v5 := Tryz.zeroValue5
 t9 := Tryz.underlying9
 a9 := Tryz.isAgg9
 z9 := Tryz.sizeOf9
 v9 := Tryz.zeroValue9
 t21 := Tryz.underlying21
 a21 := Tryz.isAgg21
 z21 := Tryz.sizeOf21
 v21 := Tryz.zeroValue21
 t46 := Tryz.underlying154
 a46 := Tryz.isAgg154
 z46 := Tryz.sizeOf154
 v46 := Tryz.zeroValue154
 t105 := Tryz.underlying136
 a105 := Tryz.isAgg136
 z105 := Tryz.sizeOf136
 v105 := Tryz.zeroValue136
 t119 := Tryz.underlying184
 a119 := Tryz.isAgg184
 z119 := Tryz.sizeOf184
 t138 := Tryz.underlying186
 a138 := Tryz.isAgg186
 z138 := Tryz.sizeOf186
 v138 := Tryz.zeroValue186
 t139 := Tryz.underlying187
 a139 := Tryz.isAgg187
 z139 := Tryz.sizeOf187
 v139 := Tryz.zeroValue187
 g3 := by kernel_rfl
 g4 := by kernel_rfl }
open Go.RowKit Go.Lib in
/-- **unicode/utf8.DecodeRuneInString AT EVERY STRING.** (LAID: no walk: one application.) -/
theorem Tryz.utf8_DecodeRuneInString (s : ByteArray) (w : World) (hT : Lib.Utf8Tabs 3 4 w) :
  Calls Tryz.prog 60 #[.string s] w fun e w' => e = .returned (.tuple #[.int .i32 (Lib.decodeGo s).1, .int .i64 (Lib.decodeGo s).2]) ∧ Below w.heap.size w w' := Any.utf8_DecodeRuneInString Tryz.lays197 s w hT
def Tryz.lays262_ren : Go.Shelf.Ren := ⟨fun | 262 => 73 | 313 => 92 | 274 => 77 | 275 => 78 | n => n, fun | 3 => 3 | 21 => 21 | 162 => 159 | 203 => 176 | 4 => 4 | 160 => 157 | 46 => 154 | 0 => 0 | 208 => 192 | 51 => 188 | 206 => 190 | n => n, fun | 13 => 2 | n => n⟩
theorem Tryz.lays262 : Go.Proofs.Lays.n262 Tryz.prog Tryz.lays262_ren := {
 mixed := by kernel_rfl
 f262 := Tryz.func73.trans (congrArg some (by kernel_rfl))
 f274 := Tryz.func77.trans (congrArg some (by kernel_rfl))
 f275 := Tryz.func78.trans (congrArg some (by kernel_rfl))
 f313 := Tryz.func92.trans (congrArg some (by kernel_rfl))
 t0 := Tryz.underlying0
 a0 := Tryz.isAgg0
 z0 := Tryz.sizeOf0
 v0 := Tryz.zeroValue0
 t3 := Tryz.underlying3
 a3 := Tryz.isAgg3
 z3 := Tryz.sizeOf3
 v3 := Tryz.zeroValue3
 t4 := Tryz.underlying4
 a4 := Tryz.isAgg4
 z4 := Tryz.sizeOf4
 v4 := Tryz.zeroValue4
 t21 := Tryz.underlying21
 a21 := Tryz.isAgg21
 z21 := Tryz.sizeOf21
 v21 := Tryz.zeroValue21
 t46 := Tryz.underlying154
 a46 := Tryz.isAgg154
 z46 := Tryz.sizeOf154
 v46 := Tryz.zeroValue154
 t51 := Tryz.underlying188
 a51 := Tryz.isAgg188
 z51 := Tryz.sizeOf188
 v51 := Tryz.zeroValue188
 t160 := Tryz.underlying157
 a160 := Tryz.isAgg157
 z160 := Tryz.sizeOf157
 v160 := Tryz.zeroValue157
 t162 := Tryz.underlying159
 a162 := Tryz.isAgg159
 z162 := Tryz.sizeOf159
 v162 := Tryz.zeroValue159
 t203 := Tryz.underlying176
 a203 := Tryz.isAgg176
 z203 := Tryz.sizeOf176
 v203 := Tryz.zeroValue176
 t206 := Tryz.underlying190
 a206 := Tryz.isAgg190
 z206 := Tryz.sizeOf190
 v206 := Tryz.zeroValue190
 t208 := Tryz.underlying192
 a208 := Tryz.isAgg192
 z208 := Tryz.sizeOf192
 v208 := Tryz.zeroValue192
 g13 := by kernel_rfl }
open Go.RowKit Go.Lib in
theorem Tryz.unicode_To (c : Nat) (hc : c < 3) (r : Int) (T : Array CaseRow) (w : World) (hV : CaseVar 2 T w) (hok : CaseOk2 T) (hn : T.size ≤ 1000000000) :
  Calls Tryz.prog 73 #[.int .i64 c, .int .i32 r] w fun e w' => e = .returned (.int .i32 (toW T c r)) ∧ ∃ q, w' = w.drewN q := Any.unicode_To Tryz.lays262 c hc r T w hV hok hn
open Go.RowKit Go.Lib in
theorem Tryz.unicode_ToLower_any (r : Int) (T : Array CaseRow) (w : World) (hV : CaseVar 2 T w) (hok : CaseOk2 T) (hn : T.size ≤ 1000000000) :
  Calls Tryz.prog 58 #[.int .i32 r] w fun e w' => e = .returned (.int .i32 (Lib.toLowerW T r)) ∧ ∃ q, w' = w.drewN q := Any.unicode_ToLower_any Tryz.lays204 r T w hV hok hn
open Go.RowKit Go.Lib in
theorem Tryz.unicode_ToLower_laid (r : Int) (w : World) (hV : CaseVar 2 caseA w) :
  Calls Tryz.prog 58 #[.int .i32 r] w fun e w' => e = .returned (.int .i32 (toLowerU r)) ∧ ∃ q, w' = w.drewN q := Any.unicode_ToLower_laid Tryz.lays204 r w hV
end Go.Proofs

namespace Go.Proofs.YtgolhmiocjpohaaGreatDoor
open Go.RowKit Go.Lib

def orbL : List (Nat × Nat) := [(75, 107), (83, 115), (107, 8490), (115, 383), (181, 924), (197, 229), (223, 7838), (229, 8491), (304, 304), (305, 305), (383, 83), (452, 453), (453, 454), (454, 452), (455, 456), (456, 457), (457, 455), (458, 459), (459, 460), (460, 458), (497, 498), (498, 499), (499, 497), (837, 921), (912, 8147), (914, 946), (917, 949), (920, 952), (921, 953), (922, 954), (924, 956), (928, 960), (929, 961), (931, 962), (934, 966), (937, 969), (944, 8163), (946, 976), (949, 1013), (952, 977), (953, 8126), (954, 1008), (956, 181), (960, 982), (961, 1009), (962, 963), (963, 931), (966, 981), (969, 8486), (976, 914), (977, 1012), (981, 934), (982, 928), (1008, 922), (1009, 929), (1012, 920), (1013, 917), (1042, 1074), (1044, 1076), (1054, 1086), (1057, 1089), (1058, 1090), (1066, 1098), (1074, 7296), (1076, 7297), (1086, 7298), (1089, 7299), (1090, 7300), (1098, 7302), (1122, 1123), (1123, 7303), (7296, 1042), (7297, 1044), (7298, 1054), (7299, 1057), (7300, 7301), (7301, 1058), (7302, 1066), (7303, 1122), (7304, 42570), (7776, 7777), (7777, 7835), (7835, 7776), (7838, 223), (8126, 837), (8147, 912), (8163, 944), (8486, 937), (8490, 75), (8491, 197), (42570, 42571), (42571, 7304), (64261, 64262), (64262, 64261)]
def orbA : Array (Nat × Nat) := orbL.toArray
def asciiL : List Nat := [0, 1, 2, 3, 4, 5, 6, 7, 8, 9, 10, 11, 12, 13, 14, 15, 16, 17, 18, 19, 20, 21, 22, 23, 24, 25, 26, 27, 28, 29, 30, 31, 32, 33, 34, 35, 36, 37, 38, 39, 40, 41, 42, 43, 44, 45, 46, 47, 48, 49, 50, 51, 52, 53, 54, 55, 56, 57, 58, 59, 60, 61, 62, 63, 64, 97, 98, 99, 100, 101, 102, 103, 104, 105, 106, 107, 108, 109, 110, 111, 112, 113, 114, 115, 116, 117, 118, 119, 120, 121, 122, 91, 92, 93, 94, 95, 96, 65, 66, 67, 68, 69, 70, 71, 72, 73, 74, 8490, 76, 77, 78, 79, 80, 81, 82, 383, 84, 85, 86, 87, 88, 89, 90, 123, 124, 125, 126, 127]
def asciiA : Array Nat := asciiL.toArray

/-- The place that the binary search in caseOrbit ends at. -/
def orbIdx (r : Int) : Nat → Nat → Nat → Nat
 | 0, lo, _ => lo
 | f + 1, lo, hi => if lo < hi then (if ((orbA.getD ((lo + hi) / 2) (0, 0)).1 : Int) < r then orbIdx r f ((lo + hi) / 2 + 1) hi else orbIdx r f lo ((lo + hi) / 2)) else lo
def orbAt (r : Int) : Nat := orbIdx r (orbA.size + 1) 0 orbA.size

/-- unicode.SimpleFold. -/
def foldR (r : Int) : Int :=
 if r < 0 ∨ 1114111 < r then r
 else if r < 128 then (asciiA.getD r.toNat 0 : Int)
 else if orbAt r < orbA.size ∧ ((orbA.getD (orbAt r) (0, 0)).1 : Int) = r then ((orbA.getD (orbAt r) (0, 0)).2 : Int)
 else match lookupIdx caseA r (caseA.size + 1) 0 caseA.size with
  | some i => if wrap32 (convertR 1 r (caseA.getD i (0, 0, 0, 0, 0))) = r then wrap32 (convertR 0 r (caseA.getD i (0, 0, 0, 0, 0))) else wrap32 (convertR 1 r (caseA.getD i (0, 0, 0, 0, 0)))
  | none => r

/-- The orbit of r closes within five steps. -/
def closes (r : Int) : Bool :=
 let a := foldR r
 a == r || (let b := foldR a; b == r || (let c := foldR b; c == r || (let d := foldR c; d == r || foldR d == r)))

def closesFrom (lo : Nat) : Nat → Bool
 | 0 => true
 | n + 1 => closes (lo : Nat) && closesFrom (lo + 1) n

theorem closesFrom_all : ∀ (n lo : Nat), closesFrom lo n = true → ∀ r, lo ≤ r → r < lo + n → closes (r : Nat) = true
 | 0, lo, _, r, h1, h2 => by omega
 | n + 1, lo, h, r, h1, h2 => by
  unfold closesFrom at h
  rw [Bool.and_eq_true] at h
  by_cases e : lo = r
  ·rw [← e]; exact h.1
  ·exact closesFrom_all n (lo + 1) h.2 r (by omega) (by omega)

def rowsClose (l : List CaseRow) : Bool := l.all fun x => closesFrom x.1 (x.2.1 + 1 - x.1)

theorem ascii_closes : closesFrom 0 128 = true := by kernel_rfl
theorem orb_closes : (orbL.all fun x => closes (x.1 : Nat)) = true := by kernel_rfl
theorem rows_close_0 : rowsClose ((caseT.drop 0).take 28) = true := by kernel_rfl
theorem rows_close_28 : rowsClose ((caseT.drop 28).take 28) = true := by kernel_rfl
theorem rows_close_56 : rowsClose ((caseT.drop 56).take 28) = true := by kernel_rfl
theorem rows_close_84 : rowsClose ((caseT.drop 84).take 28) = true := by kernel_rfl
theorem rows_close_112 : rowsClose ((caseT.drop 112).take 28) = true := by kernel_rfl
theorem rows_close_140 : rowsClose ((caseT.drop 140).take 28) = true := by kernel_rfl
theorem rows_close_168 : rowsClose ((caseT.drop 168).take 28) = true := by kernel_rfl
theorem rows_close_196 : rowsClose ((caseT.drop 196).take 28) = true := by kernel_rfl
theorem rows_close_224 : rowsClose ((caseT.drop 224).take 28) = true := by kernel_rfl
theorem rows_close_252 : rowsClose ((caseT.drop 252).take 28) = true := by kernel_rfl
theorem rows_close_280 : rowsClose ((caseT.drop 280).take 28) = true := by kernel_rfl
theorem rows_close_308 : rowsClose ((caseT.drop 308).take 28) = true := by kernel_rfl

end Go.Proofs.YtgolhmiocjpohaaGreatDoor
