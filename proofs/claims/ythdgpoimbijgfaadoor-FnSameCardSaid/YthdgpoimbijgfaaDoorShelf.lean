/-
  DERIVED: THE SHELF's CONTRACTS AT THIS DUMP, IN PLAIN WORDS (tools/lay-plain.mjs out of 'TrydShelfx.lean', which tools/lay-shelf.mjs wrote): THE SAME DECLARATIONS UNDER THE SAME NAMES: 'import', 'namespace', 'open', 'def', 'theorem' AND NOTHING ELSE: no command of the shelf's: FOR A HAND-IN. Each laying: the table of numbers ('.._ren') and one theorem, a field a fact of the dump's own or the kernel's comparison; each contract: ONE APPLICATION.
-/
import Derived.Shelf.Strings.Builder1
import Derived.Shelf.Strings.Builder2
import Derived.Shelf.Strings.OnBuilder
import Derived.Shelf.Small.Utf8
import Derived.Shelf.Unicode.Latin
import Derived.Shelf.Unicode.DecodeSlow
import Derived.Shelf.Unicode.CaseLookup
import Derived.Shelf.Unicode.CaseConvert
import Derived.Shelf.Unicode.CaseTo
import Derived.Shelf.Unicode.CaseLaid
import Derived.Test.YthdgpoimbijgfaaDoorProg
namespace Go.Proofs
open Go.Shelf
def Tryd.lays158_ren : Go.Shelf.Ren := ⟨fun | 158 => 19 | 165 => 22 | 166 => 23 | 167 => 24 | 169 => 25 | 230 => 26 | 203 => 27 | 240 => 28 | 241 => 29 | 197 => 30 | 118 => 31 | 168 => 32 | 270 => 33 | 262 => 34 | 276 => 35 | 277 => 36 | 260 => 37 | 242 => 38 | 313 => 39 | 278 => 40 | 274 => 41 | 275 => 42 | n => n, fun | 9 => 9 | 4 => 4 | 3 => 3 | 5 => 5 | 72 => 45 | 0 => 0 | 76 => 49 | 75 => 48 | 107 => 54 | 70 => 43 | 20 => 20 | 37 => 31 | 127 => 55 | 21 => 21 | 105 => 56 | 164 => 62 | 162 => 68 | 203 => 66 | 119 => 69 | 46 => 70 | 139 => 73 | 138 => 72 | 51 => 74 | 160 => 75 | 208 => 81 | 206 => 79 | 80 => 52 | n => n, fun | 13 => 0 | 3 => 2 | 4 => 3 | n => n⟩
theorem Tryd.lays158 : Go.Proofs.Lays.n158 Tryd.prog Tryd.lays158_ren := {
  mixed := by kernel_rfl
  f118 := Tryd.func31.trans (congrArg some (by kernel_rfl))
  f158 := Tryd.func19.trans (congrArg some (by kernel_rfl))
  f165 := Tryd.func22.trans (congrArg some (by kernel_rfl))
  f166 := Tryd.func23.trans (congrArg some (by kernel_rfl))
  f167 := Tryd.func24.trans (congrArg some (by kernel_rfl))
  f168 := Tryd.func32.trans (congrArg some (by kernel_rfl))
  f169 := Tryd.func25.trans (congrArg some (by kernel_rfl))
  f197 := Tryd.func30.trans (congrArg some (by kernel_rfl))
  f203 := Tryd.func27.trans (congrArg some (by kernel_rfl))
  f230 := Tryd.func26.trans (congrArg some (by kernel_rfl))
  f240 := Tryd.func28.trans (congrArg some (by kernel_rfl))
  f241 := Tryd.func29.trans (congrArg some (by kernel_rfl))
  f242 := Tryd.func38.trans (congrArg some (by kernel_rfl))
  f260 := Tryd.func37.trans (congrArg some (by kernel_rfl))
  f262 := Tryd.func34.trans (congrArg some (by kernel_rfl))
  f270 := Tryd.func33.trans (congrArg some (by kernel_rfl))
  f274 := Tryd.func41.trans (congrArg some (by kernel_rfl))
  f275 := Tryd.func42.trans (congrArg some (by kernel_rfl))
  f276 := Tryd.func35.trans (congrArg some (by kernel_rfl))
  f277 := Tryd.func36.trans (congrArg some (by kernel_rfl))
  f278 := Tryd.func40.trans (congrArg some (by kernel_rfl))
  f313 := Tryd.func39.trans (congrArg some (by kernel_rfl))
  t0 := Tryd.underlying0
  a0 := Tryd.isAgg0
  z0 := Tryd.sizeOf0
  v0 := Tryd.zeroValue0
  t3 := Tryd.underlying3
  a3 := Tryd.isAgg3
  z3 := Tryd.sizeOf3
  v3 := Tryd.zeroValue3
  t4 := Tryd.underlying4
  a4 := Tryd.isAgg4
  z4 := Tryd.sizeOf4
  v4 := Tryd.zeroValue4
  t5 := Tryd.underlying5
  a5 := Tryd.isAgg5
  z5 := Tryd.sizeOf5
  v5 := Tryd.zeroValue5
  t9 := Tryd.underlying9
  a9 := Tryd.isAgg9
  z9 := Tryd.sizeOf9
  v9 := Tryd.zeroValue9
  t20 := Tryd.underlying20
  a20 := Tryd.isAgg20
  z20 := Tryd.sizeOf20
  v20 := Tryd.zeroValue20
  t21 := Tryd.underlying21
  a21 := Tryd.isAgg21
  z21 := Tryd.sizeOf21
  v21 := Tryd.zeroValue21
  t37 := Tryd.underlying31
  a37 := Tryd.isAgg31
  z37 := Tryd.sizeOf31
  v37 := Tryd.zeroValue31
  t46 := Tryd.underlying70
  a46 := Tryd.isAgg70
  z46 := Tryd.sizeOf70
  v46 := Tryd.zeroValue70
  t51 := Tryd.underlying74
  a51 := Tryd.isAgg74
  z51 := Tryd.sizeOf74
  v51 := Tryd.zeroValue74
  t70 := Tryd.underlying43
  a70 := Tryd.isAgg43
  z70 := Tryd.sizeOf43
  v70 := Tryd.zeroValue43
  t72 := Tryd.underlying45
  a72 := Tryd.isAgg45
  z72 := Tryd.sizeOf45
  v72 := Tryd.zeroValue45
  t75 := Tryd.underlying48
  a75 := Tryd.isAgg48
  z75 := Tryd.sizeOf48
  v75 := Tryd.zeroValue48
  t76 := Tryd.underlying49
  a76 := Tryd.isAgg49
  z76 := Tryd.sizeOf49
  v76 := Tryd.zeroValue49
  t105 := Tryd.underlying56
  a105 := Tryd.isAgg56
  z105 := Tryd.sizeOf56
  v105 := Tryd.zeroValue56
  t107 := Tryd.underlying54
  a107 := Tryd.isAgg54
  z107 := Tryd.sizeOf54
  v107 := Tryd.zeroValue54
  t119 := Tryd.underlying69
  a119 := Tryd.isAgg69
  z119 := Tryd.sizeOf69
  t127 := Tryd.underlying55
  a127 := Tryd.isAgg55
  z127 := Tryd.sizeOf55
  v127 := Tryd.zeroValue55
  t138 := Tryd.underlying72
  a138 := Tryd.isAgg72
  z138 := Tryd.sizeOf72
  v138 := Tryd.zeroValue72
  t139 := Tryd.underlying73
  a139 := Tryd.isAgg73
  z139 := Tryd.sizeOf73
  v139 := Tryd.zeroValue73
  t160 := Tryd.underlying75
  a160 := Tryd.isAgg75
  z160 := Tryd.sizeOf75
  v160 := Tryd.zeroValue75
  t162 := Tryd.underlying68
  a162 := Tryd.isAgg68
  z162 := Tryd.sizeOf68
  v162 := Tryd.zeroValue68
  t164 := Tryd.underlying62
  a164 := Tryd.isAgg62
  z164 := Tryd.sizeOf62
  v164 := Tryd.zeroValue62
  t203 := Tryd.underlying66
  a203 := Tryd.isAgg66
  z203 := Tryd.sizeOf66
  v203 := Tryd.zeroValue66
  t206 := Tryd.underlying79
  a206 := Tryd.isAgg79
  z206 := Tryd.sizeOf79
  v206 := Tryd.zeroValue79
  t208 := Tryd.underlying81
  a208 := Tryd.isAgg81
  z208 := Tryd.sizeOf81
  v208 := Tryd.zeroValue81
  g3 := by kernel_rfl
  g4 := by kernel_rfl
  g13 := by kernel_rfl }
theorem Tryd.Builder_Extra_158 : Builder.Extra Tryd.prog Tryd.lays158_ren := {
  sizeBuilder := by kernel_rfl
  liesBuilder := by kernel_rfl
  t5 := Tryd.underlying5
  a5 := Tryd.isAgg5
  z5 := Tryd.sizeOf5
  v5 := Tryd.zeroValue5
  infoByte := by kernel_rfl
  cellsByte := by kernel_rfl
  sizeByte := by kernel_rfl
  neB5 := by decide }
open Go.RowKit in
/-- strings.ToUpper: "ToUpper returns s with all Unicode letters mapped to their upper case.": ON ASCII TEXT OF AT MOST 2^47 BYTES. Below the heap's end the world is as it was: where a letter turns, the call makes a builder and its buffer. (LAID: no walk: one application.) -/
theorem Tryd.strings_ToUpper_ascii (s : ByteArray) (w : World) (hs : s.size ≤ 140737488355328) (hascii : ∀ (j : Nat) (b : UInt8), s.data.toList[j]? = some b → b.toNat < 128) :
    Calls Tryd.prog 19 #[.string s] w fun e w' => e = .returned (.string ⟨(Lib.toUpperA s.data.toList).toArray⟩) ∧ Below w.heap.size w w' := Any.strings_ToUpper_ascii Tryd.lays158 Tryd.Builder_Extra_158 s w hs hascii
end Go.Proofs
