/-
  DERIVED: THE SHELF's CONTRACTS AT THIS DUMP, IN PLAIN WORDS (tools/lay-plain.mjs out of 'TryfShelf.lean', which tools/lay-shelf.mjs wrote): THE SAME DECLARATIONS UNDER THE SAME NAMES: 'import', 'namespace', 'open', 'def', 'theorem' AND NOTHING ELSE: no command of the shelf's: FOR A HAND-IN. Each laying: the table of numbers ('.._ren') and one theorem, a field a fact of the dump's own or the kernel's comparison; each contract: ONE APPLICATION.
-/
import Derived.Shelf.Unicode.DecodeAny
import Derived.Shelf.Unicode.ValidAny
import Derived.Shelf.Unicode.ExclAny
import Derived.Test.YtpbebckhemnooaaFmtProg
namespace Go.Proofs
open Go.Shelf
def Tryf.lays196_ren : Go.Shelf.Ren := ⟨fun | 196 => 81 | 259 => 95 | n => n, fun | 9 => 9 | 4 => 4 | 3 => 3 | 5 => 5 | 12 => 12 | 119 => 88 | 0 => 0 | 46 => 92 | 139 => 91 | 138 => 90 | 53 => 105 | n => n, fun | 3 => 1 | 4 => 2 | n => n⟩
theorem Tryf.lays196 : Go.Proofs.Lays.n196 Tryf.prog Tryf.lays196_ren := {
  mixed := by kernel_rfl
  f196 := Tryf.func81.trans (congrArg some (by kernel_rfl))
  f259 := Tryf.func95.trans (congrArg some (by kernel_rfl))
  t0 := Tryf.underlying0
  a0 := Tryf.isAgg0
  z0 := Tryf.sizeOf0
  v0 := Tryf.zeroValue0
  t3 := Tryf.underlying3
  a3 := Tryf.isAgg3
  z3 := Tryf.sizeOf3
  v3 := Tryf.zeroValue3
  t4 := Tryf.underlying4
  a4 := Tryf.isAgg4
  z4 := Tryf.sizeOf4
  v4 := Tryf.zeroValue4
  t5 := Tryf.underlying5
  a5 := Tryf.isAgg5
  z5 := Tryf.sizeOf5
  v5 := Tryf.zeroValue5
  t9 := Tryf.underlying9
  a9 := Tryf.isAgg9
  z9 := Tryf.sizeOf9
  v9 := Tryf.zeroValue9
  t12 := Tryf.underlying12
  a12 := Tryf.isAgg12
  z12 := Tryf.sizeOf12
  v12 := Tryf.zeroValue12
  t46 := Tryf.underlying92
  a46 := Tryf.isAgg92
  z46 := Tryf.sizeOf92
  v46 := Tryf.zeroValue92
  t53 := Tryf.underlying105
  a53 := Tryf.isAgg105
  z53 := Tryf.sizeOf105
  v53 := Tryf.zeroValue105
  t119 := Tryf.underlying88
  a119 := Tryf.isAgg88
  z119 := Tryf.sizeOf88
  t138 := Tryf.underlying90
  a138 := Tryf.isAgg90
  z138 := Tryf.sizeOf90
  v138 := Tryf.zeroValue90
  t139 := Tryf.underlying91
  a139 := Tryf.isAgg91
  z139 := Tryf.sizeOf91
  v139 := Tryf.zeroValue91
  g3 := by kernel_rfl
  g4 := by kernel_rfl }
open Go.RowKit Go.Lib in
theorem Tryf.utf8_ValidString (s : ByteArray) (w : World) (hs : s.size ≤ 9223372036854775807) (hT : Lib.Utf8Tabs 1 2 w) :
    Calls Tryf.prog 81 #[.string s] w fun e w' => e = .returned (.bool (Lib.validD s.data.toList)) ∧ Below w.heap.size w w' := Any.utf8_ValidString Tryf.lays196 s w hs hT
def Tryf.lays197_ren : Go.Shelf.Ren := ⟨fun | 197 => 92 | 260 => 104 | n => n, fun | 9 => 9 | 21 => 21 | 3 => 3 | 4 => 4 | 5 => 5 | 105 => 84 | 119 => 88 | 0 => 0 | 46 => 92 | 139 => 91 | 138 => 90 | n => n, fun | 3 => 1 | 4 => 2 | n => n⟩
theorem Tryf.lays197 : Go.Proofs.Lays.n197 Tryf.prog Tryf.lays197_ren := {
  mixed := by kernel_rfl
  f197 := Tryf.func92.trans (congrArg some (by kernel_rfl))
  f260 := Tryf.func104.trans (congrArg some (by kernel_rfl))
  t0 := Tryf.underlying0
  a0 := Tryf.isAgg0
  z0 := Tryf.sizeOf0
  v0 := Tryf.zeroValue0
  t3 := Tryf.underlying3
  a3 := Tryf.isAgg3
  z3 := Tryf.sizeOf3
  v3 := Tryf.zeroValue3
  t4 := Tryf.underlying4
  a4 := Tryf.isAgg4
  z4 := Tryf.sizeOf4
  v4 := Tryf.zeroValue4
  t5 := Tryf.underlying5
  a5 := Tryf.isAgg5
  z5 := Tryf.sizeOf5
  v5 := Tryf.zeroValue5
  t9 := Tryf.underlying9
  a9 := Tryf.isAgg9
  z9 := Tryf.sizeOf9
  v9 := Tryf.zeroValue9
  t21 := Tryf.underlying21
  a21 := Tryf.isAgg21
  z21 := Tryf.sizeOf21
  v21 := Tryf.zeroValue21
  t46 := Tryf.underlying92
  a46 := Tryf.isAgg92
  z46 := Tryf.sizeOf92
  v46 := Tryf.zeroValue92
  t105 := Tryf.underlying84
  a105 := Tryf.isAgg84
  z105 := Tryf.sizeOf84
  v105 := Tryf.zeroValue84
  t119 := Tryf.underlying88
  a119 := Tryf.isAgg88
  z119 := Tryf.sizeOf88
  t138 := Tryf.underlying90
  a138 := Tryf.isAgg90
  z138 := Tryf.sizeOf90
  v138 := Tryf.zeroValue90
  t139 := Tryf.underlying91
  a139 := Tryf.isAgg91
  z139 := Tryf.sizeOf91
  v139 := Tryf.zeroValue91
  g3 := by kernel_rfl
  g4 := by kernel_rfl }
open Go.RowKit Go.Lib in
theorem Tryf.utf8_DecodeRuneInString (s : ByteArray) (w : World) (hT : Lib.Utf8Tabs 1 2 w) :
    Calls Tryf.prog 92 #[.string s] w fun e w' => e = .returned (.tuple #[.int .i32 (Lib.decodeGo s).1, .int .i64 (Lib.decodeGo s).2]) ∧ Below w.heap.size w w' := Any.utf8_DecodeRuneInString Tryf.lays197 s w hT
def Tryf.lays261_ren : Go.Shelf.Ren := ⟨fun | 261 => 103 | 311 => 109 | 312 => 110 | n => n, fun | 141 => 96 | 21 => 21 | 4 => 4 | 0 => 0 | 196 => 110 | 193 => 107 | 3 => 3 | 51 => 94 | 198 => 112 | 49 => 31 | 194 => 108 | 201 => 115 | 226 => 121 | 46 => 92 | 227 => 122 | n => n, fun | n => n⟩
theorem Tryf.lays261 : Go.Proofs.Lays.n261 Tryf.prog Tryf.lays261_ren := {
  mixed := by kernel_rfl
  f261 := Tryf.func103.trans (congrArg some (by kernel_rfl))
  f311 := Tryf.func109.trans (congrArg some (by kernel_rfl))
  f312 := Tryf.func110.trans (congrArg some (by kernel_rfl))
  t0 := Tryf.underlying0
  a0 := Tryf.isAgg0
  z0 := Tryf.sizeOf0
  v0 := Tryf.zeroValue0
  t3 := Tryf.underlying3
  a3 := Tryf.isAgg3
  z3 := Tryf.sizeOf3
  v3 := Tryf.zeroValue3
  t4 := Tryf.underlying4
  a4 := Tryf.isAgg4
  z4 := Tryf.sizeOf4
  v4 := Tryf.zeroValue4
  t21 := Tryf.underlying21
  a21 := Tryf.isAgg21
  z21 := Tryf.sizeOf21
  v21 := Tryf.zeroValue21
  t46 := Tryf.underlying92
  a46 := Tryf.isAgg92
  z46 := Tryf.sizeOf92
  v46 := Tryf.zeroValue92
  t49 := Tryf.underlying31
  a49 := Tryf.isAgg31
  z49 := Tryf.sizeOf31
  v49 := Tryf.zeroValue31
  t51 := Tryf.underlying94
  a51 := Tryf.isAgg94
  z51 := Tryf.sizeOf94
  v51 := Tryf.zeroValue94
  t141 := Tryf.underlying96
  a141 := Tryf.isAgg96
  z141 := Tryf.sizeOf96
  v141 := Tryf.zeroValue96
  t193 := Tryf.underlying107
  a193 := Tryf.isAgg107
  z193 := Tryf.sizeOf107
  v193 := Tryf.zeroValue107
  t194 := Tryf.underlying108
  a194 := Tryf.isAgg108
  z194 := Tryf.sizeOf108
  v194 := Tryf.zeroValue108
  t196 := Tryf.underlying110
  a196 := Tryf.isAgg110
  z196 := Tryf.sizeOf110
  v196 := Tryf.zeroValue110
  t198 := Tryf.underlying112
  a198 := Tryf.isAgg112
  z198 := Tryf.sizeOf112
  v198 := Tryf.zeroValue112
  t201 := Tryf.underlying115
  a201 := Tryf.isAgg115
  z201 := Tryf.sizeOf115
  v201 := Tryf.zeroValue115
  t226 := Tryf.underlying121
  a226 := Tryf.isAgg121
  z226 := Tryf.sizeOf121
  v226 := Tryf.zeroValue121
  t227 := Tryf.underlying122
  a227 := Tryf.isAgg122
  z227 := Tryf.sizeOf122
  v227 := Tryf.zeroValue122 }
open Go.RowKit Go.Lib in
theorem Tryf.unicode_isExcludingLatin_any (Tb oT : Nat) (T : RTab) (r : Int) (w : World) (hlo : -2147483648 ≤ r) (hhi : r ≤ 2147483647) (hA : RTabAt Tb oT T w) (hok : RTabOk T) :
    Calls Tryf.prog 103 #[.pointer (some ⟨Tb, oT, none⟩), .int .i32 r] w fun e w' => e = .returned (.bool (exclGo T r)) ∧ Below w.heap.size w w' := Any.unicode_isExcludingLatin_any Tryf.lays261 Tb oT T r w hlo hhi hA hok
end Go.Proofs
