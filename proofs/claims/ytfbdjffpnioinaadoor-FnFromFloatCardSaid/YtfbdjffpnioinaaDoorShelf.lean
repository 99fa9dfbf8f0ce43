/-
  DERIVED: THE SHELF's CONTRACTS AT THIS DUMP, IN PLAIN WORDS (tools/lay-plain.mjs out of 'TrydShelfx.lean', which tools/lay-shelf.mjs wrote): THE SAME DECLARATIONS UNDER THE SAME NAMES: 'import', 'namespace', 'open', 'def', 'theorem' AND NOTHING ELSE: no command of the shelf's: FOR A HAND-IN. Each laying: the table of numbers ('.._ren') and one theorem, a field a fact of the dump's own or the kernel's comparison; each contract: ONE APPLICATION.
-/
import Derived.Shelf.Strings.Builder1
import Derived.Shelf.Strings.Builder2
import Derived.Shelf.Strings.OnBuilder
import Derived.Shelf.Small.Utf8
import Derived.Shelf.Strings.BuilderF
import Derived.Shelf.Strings.Builder2Cap
import Derived.Shelf.Unicode.Latin
import Derived.Shelf.Unicode.Decode
import Derived.Shelf.Unicode.DecodeSlow
import Derived.Shelf.Unicode.DecodeAny
import Derived.Shelf.Unicode.CaseLookup
import Derived.Shelf.Unicode.CaseConvert
import Derived.Shelf.Unicode.CaseTo
import Derived.Shelf.Unicode.CaseLaid
import Derived.Test.YtfbdjffpnioinaaDoorProg
namespace Go.Proofs
open Go.Shelf
def Tryd.lays158_ren : Go.Shelf.Ren := ⟨fun | 158 => 39 | 165 => 45 | 166 => 46 | 167 => 47 | 169 => 48 | 230 => 49 | 203 => 50 | 240 => 52 | 241 => 53 | 197 => 54 | 118 => 55 | 168 => 56 | 270 => 57 | 262 => 58 | 276 => 60 | 277 => 61 | 260 => 62 | 242 => 63 | 313 => 64 | 278 => 65 | 274 => 66 | 275 => 67 | n => n, fun | 9 => 9 | 4 => 4 | 3 => 3 | 5 => 5 | 72 => 86 | 0 => 0 | 76 => 88 | 75 => 69 | 107 => 93 | 70 => 83 | 20 => 20 | 37 => 84 | 127 => 97 | 21 => 21 | 105 => 98 | 164 => 105 | 162 => 111 | 203 => 109 | 119 => 112 | 46 => 59 | 139 => 115 | 138 => 114 | 51 => 116 | 160 => 117 | 208 => 123 | 206 => 121 | 80 => 91 | n => n, fun | 13 => 5 | 3 => 7 | 4 => 8 | n => n⟩
theorem Tryd.lays158 : Go.Proofs.Lays.n158 Tryd.prog Tryd.lays158_ren := {
  mixed := by kernel_rfl
  f118 := Tryd.func55.trans (congrArg some (by kernel_rfl))
  f158 := Tryd.func39.trans (congrArg some (by kernel_rfl))
  f165 := Tryd.func45.trans (congrArg some (by kernel_rfl))
  f166 := Tryd.func46.trans (congrArg some (by kernel_rfl))
  f167 := Tryd.func47.trans (congrArg some (by kernel_rfl))
  f168 := Tryd.func56.trans (congrArg some (by kernel_rfl))
  f169 := Tryd.func48.trans (congrArg some (by kernel_rfl))
  f197 := Tryd.func54.trans (congrArg some (by kernel_rfl))
  f203 := Tryd.func50.trans (congrArg some (by kernel_rfl))
  f230 := Tryd.func49.trans (congrArg some (by kernel_rfl))
  f240 := Tryd.func52.trans (congrArg some (by kernel_rfl))
  f241 := Tryd.func53.trans (congrArg some (by kernel_rfl))
  f242 := Tryd.func63.trans (congrArg some (by kernel_rfl))
  f260 := Tryd.func62.trans (congrArg some (by kernel_rfl))
  f262 := Tryd.func58.trans (congrArg some (by kernel_rfl))
  f270 := Tryd.func57.trans (congrArg some (by kernel_rfl))
  f274 := Tryd.func66.trans (congrArg some (by kernel_rfl))
  f275 := Tryd.func67.trans (congrArg some (by kernel_rfl))
  f276 := Tryd.func60.trans (congrArg some (by kernel_rfl))
  f277 := Tryd.func61.trans (congrArg some (by kernel_rfl))
  f278 := Tryd.func65.trans (congrArg some (by kernel_rfl))
  f313 := Tryd.func64.trans (congrArg some (by kernel_rfl))
  t0 := Tryd.underlying0
  a0 := Tryd.isAgg0
  z0 := Tryd.sizeOf0
  v0 := Tryd.zeroValue0
  t3 := Tryd.underlying3
  a3 := Tryd.isAgg3
  z3 := Tryd.sizeOf3
  v3 := Tryd.zeroValue3
  t4 := Tryd.underlying4
  a4 := Tryd.isAgg4
  z4 := Tryd.sizeOf4
  v4 := Tryd.zeroValue4
  t5 := Tryd.underlying5
  a5 := Tryd.isAgg5
  z5 := Tryd.sizeOf5
  v5 := Tryd.zeroValue5
  t9 := Tryd.underlying9
  a9 := Tryd.isAgg9
  z9 := Tryd.sizeOf9
  v9 := Tryd.zeroValue9
  t20 := Tryd.underlying20
  a20 := Tryd.isAgg20
  z20 := Tryd.sizeOf20
  v20 := Tryd.zeroValue20
  t21 := Tryd.underlying21
  a21 := Tryd.isAgg21
  z21 := Tryd.sizeOf21
  v21 := Tryd.zeroValue21
  t37 := Tryd.underlying84
  a37 := Tryd.isAgg84
  z37 := Tryd.sizeOf84
  v37 := Tryd.zeroValue84
  t46 := Tryd.underlying59
  a46 := Tryd.isAgg59
  z46 := Tryd.sizeOf59
  v46 := Tryd.zeroValue59
  t51 := Tryd.underlying116
  a51 := Tryd.isAgg116
  z51 := Tryd.sizeOf116
  v51 := Tryd.zeroValue116
  t70 := Tryd.underlying83
  a70 := Tryd.isAgg83
  z70 := Tryd.sizeOf83
  v70 := Tryd.zeroValue83
  t72 := Tryd.underlying86
  a72 := Tryd.isAgg86
  z72 := Tryd.sizeOf86
  v72 := Tryd.zeroValue86
  t75 := Tryd.underlying69
  a75 := Tryd.isAgg69
  z75 := Tryd.sizeOf69
  v75 := Tryd.zeroValue69
  t76 := Tryd.underlying88
  a76 := Tryd.isAgg88
  z76 := Tryd.sizeOf88
  v76 := Tryd.zeroValue88
  t105 := Tryd.underlying98
  a105 := Tryd.isAgg98
  z105 := Tryd.sizeOf98
  v105 := Tryd.zeroValue98
  t107 := Tryd.underlying93
  a107 := Tryd.isAgg93
  z107 := Tryd.sizeOf93
  v107 := Tryd.zeroValue93
  t119 := Tryd.underlying112
  a119 := Tryd.isAgg112
  z119 := Tryd.sizeOf112
  t127 := Tryd.underlying97
  a127 := Tryd.isAgg97
  z127 := Tryd.sizeOf97
  v127 := Tryd.zeroValue97
  t138 := Tryd.underlying114
  a138 := Tryd.isAgg114
  z138 := Tryd.sizeOf114
  v138 := Tryd.zeroValue114
  t139 := Tryd.underlying115
  a139 := Tryd.isAgg115
  z139 := Tryd.sizeOf115
  v139 := Tryd.zeroValue115
  t160 := Tryd.underlying117
  a160 := Tryd.isAgg117
  z160 := Tryd.sizeOf117
  v160 := Tryd.zeroValue117
  t162 := Tryd.underlying111
  a162 := Tryd.isAgg111
  z162 := Tryd.sizeOf111
  v162 := Tryd.zeroValue111
  t164 := Tryd.underlying105
  a164 := Tryd.isAgg105
  z164 := Tryd.sizeOf105
  v164 := Tryd.zeroValue105
  t203 := Tryd.underlying109
  a203 := Tryd.isAgg109
  z203 := Tryd.sizeOf109
  v203 := Tryd.zeroValue109
  t206 := Tryd.underlying121
  a206 := Tryd.isAgg121
  z206 := Tryd.sizeOf121
  v206 := Tryd.zeroValue121
  t208 := Tryd.underlying123
  a208 := Tryd.isAgg123
  z208 := Tryd.sizeOf123
  v208 := Tryd.zeroValue123
  g3 := by kernel_rfl
  g4 := by kernel_rfl
  g13 := by kernel_rfl }
theorem Tryd.Builder_Extra_158 : Builder.Extra Tryd.prog Tryd.lays158_ren := {
  sizeBuilder := by kernel_rfl
  liesBuilder := by kernel_rfl
  t5 := Tryd.underlying5
  a5 := Tryd.isAgg5
  z5 := Tryd.sizeOf5
  v5 := Tryd.zeroValue5
  infoByte := by kernel_rfl
  cellsByte := by kernel_rfl
  sizeByte := by kernel_rfl
  neB5 := by decide }
open Go.RowKit in
/-- strings.ToUpper: "ToUpper returns s with all Unicode letters mapped to their upper case.": ON ASCII TEXT OF AT MOST 2^47 BYTES. Below the heap's end the world is as it was: where a letter turns, the call makes a builder and its buffer. (LAID: no walk: one application.) -/
theorem Tryd.strings_ToUpper_ascii (s : ByteArray) (w : World) (hs : s.size ≤ 140737488355328) (hascii : ∀ (j : Nat) (b : UInt8), s.data.toList[j]? = some b → b.toNat < 128) :
    Calls Tryd.prog 39 #[.string s] w fun e w' => e = .returned (.string ⟨(Lib.toUpperA s.data.toList).toArray⟩) ∧ Below w.heap.size w w' := Any.strings_ToUpper_ascii Tryd.lays158 Tryd.Builder_Extra_158 s w hs hascii
end Go.Proofs
