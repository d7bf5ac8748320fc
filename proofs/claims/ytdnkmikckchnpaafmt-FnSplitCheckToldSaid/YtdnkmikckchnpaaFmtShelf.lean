/-
  DERIVED: THE SHELF's CONTRACTS AT THIS DUMP, IN PLAIN WORDS (tools/lay-plain.mjs out of 'TryfShelf.lean', which tools/lay-shelf.mjs wrote): THE SAME DECLARATIONS UNDER THE SAME NAMES: 'import', 'namespace', 'open', 'def', 'theorem' AND NOTHING ELSE: no command of the shelf's: FOR A HAND-IN. Each laying: the table of numbers ('.._ren') and one theorem, a field a fact of the dump's own or the kernel's comparison; each contract: ONE APPLICATION.
-/
import Derived.Shelf.Unicode.DecodeAny
import Derived.Shelf.Unicode.ValidAny
import Derived.Shelf.Unicode.ExclAny
import Derived.Test.YtdnkmikckchnpaaFmtProg
namespace Go.Proofs
open Go.Shelf
def Tryf.lays196_ren : Go.Shelf.Ren := ⟨fun | 196 => 79 | 259 => 90 | n => n, fun | 9 => 9 | 4 => 4 | 3 => 3 | 5 => 5 | 12 => 12 | 119 => 87 | 0 => 0 | 46 => 91 | 139 => 90 | 138 => 89 | 53 => 104 | n => n, fun | 3 => 1 | 4 => 2 | n => n⟩
theorem Tryf.lays196 : Go.Proofs.Lays.n196 Tryf.prog Tryf.lays196_ren := {
  mixed := by kernel_rfl
  f196 := Tryf.func79.trans (congrArg some (by kernel_rfl))
  f259 := Tryf.func90.trans (congrArg some (by kernel_rfl))
  t0 := Tryf.underlying0
  a0 := Tryf.isAgg0
  z0 := Tryf.sizeOf0
  v0 := Tryf.zeroValue0
  t3 := Tryf.underlying3
  a3 := Tryf.isAgg3
  z3 := Tryf.sizeOf3
  v3 := Tryf.zeroValue3
  t4 := Tryf.underlying4
  a4 := Tryf.isAgg4
  z4 := Tryf.sizeOf4
  v4 := Tryf.zeroValue4
  t5 := Tryf.underlying5
  a5 := Tryf.isAgg5
  z5 := Tryf.sizeOf5
  v5 := Tryf.zeroValue5
  t9 := Tryf.underlying9
  a9 := Tryf.isAgg9
  z9 := Tryf.sizeOf9
  v9 := Tryf.zeroValue9
  t12 := Tryf.underlying12
  a12 := Tryf.isAgg12
  z12 := Tryf.sizeOf12
  v12 := Tryf.zeroValue12
  t46 := Tryf.underlying91
  a46 := Tryf.isAgg91
  z46 := Tryf.sizeOf91
  v46 := Tryf.zeroValue91
  t53 := Tryf.underlying104
  a53 := Tryf.isAgg104
  z53 := Tryf.sizeOf104
  v53 := Tryf.zeroValue104
  t119 := Tryf.underlying87
  a119 := Tryf.isAgg87
  z119 := Tryf.sizeOf87
  t138 := Tryf.underlying89
  a138 := Tryf.isAgg89
  z138 := Tryf.sizeOf89
  v138 := Tryf.zeroValue89
  t139 := Tryf.underlying90
  a139 := Tryf.isAgg90
  z139 := Tryf.sizeOf90
  v139 := Tryf.zeroValue90
  g3 := by kernel_rfl
  g4 := by kernel_rfl }
open Go.RowKit Go.Lib in
theorem Tryf.utf8_ValidString (s : ByteArray) (w : World) (hs : s.size ≤ 9223372036854775807) (hT : Lib.Utf8Tabs 1 2 w) :
    Calls Tryf.prog 79 #[.string s] w fun e w' => e = .returned (.bool (Lib.validD s.data.toList)) ∧ Below w.heap.size w w' := Any.utf8_ValidString Tryf.lays196 s w hs hT
def Tryf.lays197_ren : Go.Shelf.Ren := ⟨fun | 197 => 87 | 260 => 96 | n => n, fun | 9 => 9 | 21 => 21 | 3 => 3 | 4 => 4 | 5 => 5 | 105 => 83 | 119 => 87 | 0 => 0 | 46 => 91 | 139 => 90 | 138 => 89 | n => n, fun | 3 => 1 | 4 => 2 | n => n⟩
theorem Tryf.lays197 : Go.Proofs.Lays.n197 Tryf.prog Tryf.lays197_ren := {
  mixed := by kernel_rfl
  f197 := Tryf.func87.trans (congrArg some (by kernel_rfl))
  f260 := Tryf.func96.trans (congrArg some (by kernel_rfl))
  t0 := Tryf.underlying0
  a0 := Tryf.isAgg0
  z0 := Tryf.sizeOf0
  v0 := Tryf.zeroValue0
  t3 := Tryf.underlying3
  a3 := Tryf.isAgg3
  z3 := Tryf.sizeOf3
  v3 := Tryf.zeroValue3
  t4 := Tryf.underlying4
  a4 := Tryf.isAgg4
  z4 := Tryf.sizeOf4
  v4 := Tryf.zeroValue4
  t5 := Tryf.underlying5
  a5 := Tryf.isAgg5
  z5 := Tryf.sizeOf5
  v5 := Tryf.zeroValue5
  t9 := Tryf.underlying9
  a9 := Tryf.isAgg9
  z9 := Tryf.sizeOf9
  v9 := Tryf.zeroValue9
  t21 := Tryf.underlying21
  a21 := Tryf.isAgg21
  z21 := Tryf.sizeOf21
  v21 := Tryf.zeroValue21
  t46 := Tryf.underlying91
  a46 := Tryf.isAgg91
  z46 := Tryf.sizeOf91
  v46 := Tryf.zeroValue91
  t105 := Tryf.underlying83
  a105 := Tryf.isAgg83
  z105 := Tryf.sizeOf83
  v105 := Tryf.zeroValue83
  t119 := Tryf.underlying87
  a119 := Tryf.isAgg87
  z119 := Tryf.sizeOf87
  t138 := Tryf.underlying89
  a138 := Tryf.isAgg89
  z138 := Tryf.sizeOf89
  v138 := Tryf.zeroValue89
  t139 := Tryf.underlying90
  a139 := Tryf.isAgg90
  z139 := Tryf.sizeOf90
  v139 := Tryf.zeroValue90
  g3 := by kernel_rfl
  g4 := by kernel_rfl }
open Go.RowKit Go.Lib in
theorem Tryf.utf8_DecodeRuneInString (s : ByteArray) (w : World) (hT : Lib.Utf8Tabs 1 2 w) :
    Calls Tryf.prog 87 #[.string s] w fun e w' => e = .returned (.tuple #[.int .i32 (Lib.decodeGo s).1, .int .i64 (Lib.decodeGo s).2]) ∧ Below w.heap.size w w' := Any.utf8_DecodeRuneInString Tryf.lays197 s w hT
def Tryf.lays261_ren : Go.Shelf.Ren := ⟨fun | 261 => 95 | 311 => 101 | 312 => 102 | n => n, fun | 141 => 95 | 21 => 21 | 4 => 4 | 0 => 0 | 196 => 109 | 193 => 106 | 3 => 3 | 51 => 93 | 198 => 111 | 49 => 27 | 194 => 107 | 201 => 114 | 226 => 120 | 46 => 91 | 227 => 121 | n => n, fun | n => n⟩
theorem Tryf.lays261 : Go.Proofs.Lays.n261 Tryf.prog Tryf.lays261_ren := {
  mixed := by kernel_rfl
  f261 := Tryf.func95.trans (congrArg some (by kernel_rfl))
  f311 := Tryf.func101.trans (congrArg some (by kernel_rfl))
  f312 := Tryf.func102.trans (congrArg some (by kernel_rfl))
  t0 := Tryf.underlying0
  a0 := Tryf.isAgg0
  z0 := Tryf.sizeOf0
  v0 := Tryf.zeroValue0
  t3 := Tryf.underlying3
  a3 := Tryf.isAgg3
  z3 := Tryf.sizeOf3
  v3 := Tryf.zeroValue3
  t4 := Tryf.underlying4
  a4 := Tryf.isAgg4
  z4 := Tryf.sizeOf4
  v4 := Tryf.zeroValue4
  t21 := Tryf.underlying21
  a21 := Tryf.isAgg21
  z21 := Tryf.sizeOf21
  v21 := Tryf.zeroValue21
  t46 := Tryf.underlying91
  a46 := Tryf.isAgg91
  z46 := Tryf.sizeOf91
  v46 := Tryf.zeroValue91
  t49 := Tryf.underlying27
  a49 := Tryf.isAgg27
  z49 := Tryf.sizeOf27
  v49 := Tryf.zeroValue27
  t51 := Tryf.underlying93
  a51 := Tryf.isAgg93
  z51 := Tryf.sizeOf93
  v51 := Tryf.zeroValue93
  t141 := Tryf.underlying95
  a141 := Tryf.isAgg95
  z141 := Tryf.sizeOf95
  v141 := Tryf.zeroValue95
  t193 := Tryf.underlying106
  a193 := Tryf.isAgg106
  z193 := Tryf.sizeOf106
  v193 := Tryf.zeroValue106
  t194 := Tryf.underlying107
  a194 := Tryf.isAgg107
  z194 := Tryf.sizeOf107
  v194 := Tryf.zeroValue107
  t196 := Tryf.underlying109
  a196 := Tryf.isAgg109
  z196 := Tryf.sizeOf109
  v196 := Tryf.zeroValue109
  t198 := Tryf.underlying111
  a198 := Tryf.isAgg111
  z198 := Tryf.sizeOf111
  v198 := Tryf.zeroValue111
  t201 := Tryf.underlying114
  a201 := Tryf.isAgg114
  z201 := Tryf.sizeOf114
  v201 := Tryf.zeroValue114
  t226 := Tryf.underlying120
  a226 := Tryf.isAgg120
  z226 := Tryf.sizeOf120
  v226 := Tryf.zeroValue120
  t227 := Tryf.underlying121
  a227 := Tryf.isAgg121
  z227 := Tryf.sizeOf121
  v227 := Tryf.zeroValue121 }
open Go.RowKit Go.Lib in
theorem Tryf.unicode_isExcludingLatin_any (Tb oT : Nat) (T : RTab) (r : Int) (w : World) (hlo : -2147483648 ≤ r) (hhi : r ≤ 2147483647) (hA : RTabAt Tb oT T w) (hok : RTabOk T) :
    Calls Tryf.prog 95 #[.pointer (some ⟨Tb, oT, none⟩), .int .i32 r] w fun e w' => e = .returned (.bool (exclGo T r)) ∧ Below w.heap.size w w' := Any.unicode_isExcludingLatin_any Tryf.lays261 Tb oT T r w hlo hhi hA hok
end Go.Proofs
