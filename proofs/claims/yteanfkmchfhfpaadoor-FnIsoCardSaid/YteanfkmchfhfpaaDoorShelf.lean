/-
  DERIVED: THE SHELF's CONTRACTS AT THIS DUMP, IN PLAIN WORDS (tools/lay-plain.mjs out of 'TrydShelfx.lean', which tools/lay-shelf.mjs wrote): THE SAME DECLARATIONS UNDER THE SAME NAMES: 'import', 'namespace', 'open', 'def', 'theorem' AND NOTHING ELSE: no command of the shelf's: FOR A HAND-IN. Each laying: the table of numbers ('.._ren') and one theorem, a field a fact of the dump's own or the kernel's comparison; each contract: ONE APPLICATION.
-/
import Derived.Shelf.Strings.Builder1
import Derived.Shelf.Strings.Builder2
import Derived.Shelf.Strings.OnBuilder
import Derived.Shelf.Small.Utf8
import Derived.Shelf.Strings.BuilderF
import Derived.Shelf.Unicode.Latin
import Derived.Shelf.Unicode.Decode
import Derived.Shelf.Unicode.DecodeSlow
import Derived.Shelf.Unicode.DecodeAny
import Derived.Shelf.Unicode.CaseLookup
import Derived.Shelf.Unicode.CaseConvert
import Derived.Shelf.Unicode.CaseTo
import Derived.Shelf.Unicode.CaseLaid
import Derived.Test.YteanfkmchfhfpaaDoorProg
namespace Go.Proofs
open Go.Shelf
def Tryd.lays158_ren : Go.Shelf.Ren := ⟨fun | 158 => 52 | 165 => 63 | 166 => 64 | 167 => 65 | 169 => 66 | 230 => 67 | 203 => 68 | 240 => 71 | 241 => 72 | 197 => 73 | 118 => 74 | 168 => 75 | 270 => 76 | 262 => 77 | 276 => 79 | 277 => 80 | 260 => 81 | 242 => 82 | 313 => 83 | 278 => 84 | 274 => 85 | 275 => 86 | n => n, fun | 9 => 9 | 4 => 4 | 3 => 3 | 5 => 5 | 72 => 90 | 0 => 0 | 76 => 71 | 75 => 63 | 107 => 96 | 70 => 88 | 20 => 20 | 37 => 57 | 127 => 100 | 21 => 21 | 105 => 101 | 164 => 108 | 162 => 114 | 203 => 112 | 119 => 115 | 46 => 116 | 139 => 119 | 138 => 118 | 51 => 120 | 160 => 121 | 208 => 127 | 206 => 125 | 80 => 94 | n => n, fun | 13 => 1 | 3 => 3 | 4 => 4 | n => n⟩
theorem Tryd.lays158 : Go.Proofs.Lays.n158 Tryd.prog Tryd.lays158_ren := {
  mixed := by kernel_rfl
  f118 := Tryd.func74.trans (congrArg some (by kernel_rfl))
  f158 := Tryd.func52.trans (congrArg some (by kernel_rfl))
  f165 := Tryd.func63.trans (congrArg some (by kernel_rfl))
  f166 := Tryd.func64.trans (congrArg some (by kernel_rfl))
  f167 := Tryd.func65.trans (congrArg some (by kernel_rfl))
  f168 := Tryd.func75.trans (congrArg some (by kernel_rfl))
  f169 := Tryd.func66.trans (congrArg some (by kernel_rfl))
  f197 := Tryd.func73.trans (congrArg some (by kernel_rfl))
  f203 := Tryd.func68.trans (congrArg some (by kernel_rfl))
  f230 := Tryd.func67.trans (congrArg some (by kernel_rfl))
  f240 := Tryd.func71.trans (congrArg some (by kernel_rfl))
  f241 := Tryd.func72.trans (congrArg some (by kernel_rfl))
  f242 := Tryd.func82.trans (congrArg some (by kernel_rfl))
  f260 := Tryd.func81.trans (congrArg some (by kernel_rfl))
  f262 := Tryd.func77.trans (congrArg some (by kernel_rfl))
  f270 := Tryd.func76.trans (congrArg some (by kernel_rfl))
  f274 := Tryd.func85.trans (congrArg some (by kernel_rfl))
  f275 := Tryd.func86.trans (congrArg some (by kernel_rfl))
  f276 := Tryd.func79.trans (congrArg some (by kernel_rfl))
  f277 := Tryd.func80.trans (congrArg some (by kernel_rfl))
  f278 := Tryd.func84.trans (congrArg some (by kernel_rfl))
  f313 := Tryd.func83.trans (congrArg some (by kernel_rfl))
  t0 := Tryd.underlying0
  a0 := Tryd.isAgg0
  z0 := Tryd.sizeOf0
  v0 := Tryd.zeroValue0
  t3 := Tryd.underlying3
  a3 := Tryd.isAgg3
  z3 := Tryd.sizeOf3
  v3 := Tryd.zeroValue3
  t4 := Tryd.underlying4
  a4 := Tryd.isAgg4
  z4 := Tryd.sizeOf4
  v4 := Tryd.zeroValue4
  t5 := Tryd.underlying5
  a5 := Tryd.isAgg5
  z5 := Tryd.sizeOf5
  v5 := Tryd.zeroValue5
  t9 := Tryd.underlying9
  a9 := Tryd.isAgg9
  z9 := Tryd.sizeOf9
  v9 := Tryd.zeroValue9
  t20 := Tryd.underlying20
  a20 := Tryd.isAgg20
  z20 := Tryd.sizeOf20
  v20 := Tryd.zeroValue20
  t21 := Tryd.underlying21
  a21 := Tryd.isAgg21
  z21 := Tryd.sizeOf21
  v21 := Tryd.zeroValue21
  t37 := Tryd.underlying57
  a37 := Tryd.isAgg57
  z37 := Tryd.sizeOf57
  v37 := Tryd.zeroValue57
  t46 := Tryd.underlying116
  a46 := Tryd.isAgg116
  z46 := Tryd.sizeOf116
  v46 := Tryd.zeroValue116
  t51 := Tryd.underlying120
  a51 := Tryd.isAgg120
  z51 := Tryd.sizeOf120
  v51 := Tryd.zeroValue120
  t70 := Tryd.underlying88
  a70 := Tryd.isAgg88
  z70 := Tryd.sizeOf88
  v70 := Tryd.zeroValue88
  t72 := Tryd.underlying90
  a72 := Tryd.isAgg90
  z72 := Tryd.sizeOf90
  v72 := Tryd.zeroValue90
  t75 := Tryd.underlying63
  a75 := Tryd.isAgg63
  z75 := Tryd.sizeOf63
  v75 := Tryd.zeroValue63
  t76 := Tryd.underlying71
  a76 := Tryd.isAgg71
  z76 := Tryd.sizeOf71
  v76 := Tryd.zeroValue71
  t105 := Tryd.underlying101
  a105 := Tryd.isAgg101
  z105 := Tryd.sizeOf101
  v105 := Tryd.zeroValue101
  t107 := Tryd.underlying96
  a107 := Tryd.isAgg96
  z107 := Tryd.sizeOf96
  v107 := Tryd.zeroValue96
  t119 := Tryd.underlying115
  a119 := Tryd.isAgg115
  z119 := Tryd.sizeOf115
  t127 := Tryd.underlying100
  a127 := Tryd.isAgg100
  z127 := Tryd.sizeOf100
  v127 := Tryd.zeroValue100
  t138 := Tryd.underlying118
  a138 := Tryd.isAgg118
  z138 := Tryd.sizeOf118
  v138 := Tryd.zeroValue118
  t139 := Tryd.underlying119
  a139 := Tryd.isAgg119
  z139 := Tryd.sizeOf119
  v139 := Tryd.zeroValue119
  t160 := Tryd.underlying121
  a160 := Tryd.isAgg121
  z160 := Tryd.sizeOf121
  v160 := Tryd.zeroValue121
  t162 := Tryd.underlying114
  a162 := Tryd.isAgg114
  z162 := Tryd.sizeOf114
  v162 := Tryd.zeroValue114
  t164 := Tryd.underlying108
  a164 := Tryd.isAgg108
  z164 := Tryd.sizeOf108
  v164 := Tryd.zeroValue108
  t203 := Tryd.underlying112
  a203 := Tryd.isAgg112
  z203 := Tryd.sizeOf112
  v203 := Tryd.zeroValue112
  t206 := Tryd.underlying125
  a206 := Tryd.isAgg125
  z206 := Tryd.sizeOf125
  v206 := Tryd.zeroValue125
  t208 := Tryd.underlying127
  a208 := Tryd.isAgg127
  z208 := Tryd.sizeOf127
  v208 := Tryd.zeroValue127
  g3 := by kernel_rfl
  g4 := by kernel_rfl
  g13 := by kernel_rfl }
theorem Tryd.Builder_Extra_158 : Builder.Extra Tryd.prog Tryd.lays158_ren := {
  sizeBuilder := by kernel_rfl
  liesBuilder := by kernel_rfl
  t5 := Tryd.underlying5
  a5 := Tryd.isAgg5
  z5 := Tryd.sizeOf5
  v5 := Tryd.zeroValue5
  infoByte := by kernel_rfl
  cellsByte := by kernel_rfl
  sizeByte := by kernel_rfl
  neB5 := by decide }
open Go.RowKit in
/-- strings.ToUpper: "ToUpper returns s with all Unicode letters mapped to their upper case.": ON ASCII TEXT OF AT MOST 2^47 BYTES. Below the heap's end the world is as it was: where a letter turns, the call makes a builder and its buffer. (LAID: no walk: one application.) -/
theorem Tryd.strings_ToUpper_ascii (s : ByteArray) (w : World) (hs : s.size ≤ 140737488355328) (hascii : ∀ (j : Nat) (b : UInt8), s.data.toList[j]? = some b → b.toNat < 128) :
    Calls Tryd.prog 52 #[.string s] w fun e w' => e = .returned (.string ⟨(Lib.toUpperA s.data.toList).toArray⟩) ∧ Below w.heap.size w w' := Any.strings_ToUpper_ascii Tryd.lays158 Tryd.Builder_Extra_158 s w hs hascii
end Go.Proofs
