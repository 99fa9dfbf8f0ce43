/-
  DERIVED: THE SHELF's CONTRACTS AT THIS DUMP, IN PLAIN WORDS (tools/lay-plain.mjs out of 'TrydShelfx.lean', which tools/lay-shelf.mjs wrote): THE SAME DECLARATIONS UNDER THE SAME NAMES: 'import', 'namespace', 'open', 'def', 'theorem' AND NOTHING ELSE: no command of the shelf's: FOR A HAND-IN. Each laying: the table of numbers ('.._ren') and one theorem, a field a fact of the dump's own or the kernel's comparison; each contract: ONE APPLICATION.
-/
import Derived.Shelf.Strings.Builder1
import Derived.Shelf.Strings.Builder2
import Derived.Shelf.Strings.OnBuilder
import Derived.Shelf.Small.Utf8
import Derived.Shelf.Strings.BuilderF
import Derived.Shelf.Strings.Builder2Cap
import Derived.Shelf.Strconv.Itoa0
import Derived.Shelf.Strconv.Itoa1
import Derived.Shelf.LaysM
import Derived.Shelf.Strconv.Itoa2
import Derived.Shelf.Strconv.Itoa3
import Derived.Shelf.Strconv.Itoa4
import Derived.Shelf.Strings.Prefix
import Derived.Shelf.Unicode.Latin
import Derived.Shelf.Unicode.Decode
import Derived.Shelf.Bits.Mul64
import Derived.Shelf.Strings.Repeat
import Derived.Shelf.Unicode.DecodeSlow
import Derived.Shelf.Unicode.DecodeAny
import Derived.Shelf.Unicode.CaseLookup
import Derived.Shelf.Unicode.CaseConvert
import Derived.Shelf.Unicode.CaseTo
import Derived.Shelf.Unicode.CaseLaid
import Derived.Test.YteejhpoddpcahaaDoorProg
namespace Go.Proofs
open Go.Shelf
def Tryd.lays158_ren : Go.Shelf.Ren := ⟨fun | 158 => 72 | 165 => 67 | 166 => 68 | 167 => 85 | 169 => 70 | 230 => 86 | 203 => 87 | 240 => 82 | 241 => 83 | 197 => 96 | 118 => 97 | 168 => 98 | 270 => 99 | 262 => 100 | 276 => 93 | 277 => 94 | 260 => 103 | 242 => 104 | 313 => 105 | 278 => 106 | 274 => 107 | 275 => 108 | n => n, fun | 9 => 9 | 4 => 4 | 3 => 3 | 5 => 5 | 72 => 105 | 0 => 0 | 76 => 107 | 75 => 68 | 107 => 133 | 70 => 103 | 20 => 20 | 37 => 72 | 127 => 129 | 21 => 21 | 105 => 144 | 164 => 140 | 162 => 153 | 203 => 151 | 119 => 156 | 46 => 99 | 139 => 159 | 138 => 158 | 51 => 124 | 160 => 160 | 208 => 166 | 206 => 164 | 80 => 64 | n => n, fun | 13 => 3 | 3 => 6 | 4 => 7 | n => n⟩
theorem Tryd.lays158 : Go.Proofs.Lays.n158 Tryd.prog Tryd.lays158_ren := {
  mixed := by kernel_rfl
  f118 := Tryd.func97.trans (congrArg some (by kernel_rfl))
  f158 := Tryd.func72.trans (congrArg some (by kernel_rfl))
  f165 := Tryd.func67.trans (congrArg some (by kernel_rfl))
  f166 := Tryd.func68.trans (congrArg some (by kernel_rfl))
  f167 := Tryd.func85.trans (congrArg some (by kernel_rfl))
  f168 := Tryd.func98.trans (congrArg some (by kernel_rfl))
  f169 := Tryd.func70.trans (congrArg some (by kernel_rfl))
  f197 := Tryd.func96.trans (congrArg some (by kernel_rfl))
  f203 := Tryd.func87.trans (congrArg some (by kernel_rfl))
  f230 := Tryd.func86.trans (congrArg some (by kernel_rfl))
  f240 := Tryd.func82.trans (congrArg some (by kernel_rfl))
  f241 := Tryd.func83.trans (congrArg some (by kernel_rfl))
  f242 := Tryd.func104.trans (congrArg some (by kernel_rfl))
  f260 := Tryd.func103.trans (congrArg some (by kernel_rfl))
  f262 := Tryd.func100.trans (congrArg some (by kernel_rfl))
  f270 := Tryd.func99.trans (congrArg some (by kernel_rfl))
  f274 := Tryd.func107.trans (congrArg some (by kernel_rfl))
  f275 := Tryd.func108.trans (congrArg some (by kernel_rfl))
  f276 := Tryd.func93.trans (congrArg some (by kernel_rfl))
  f277 := Tryd.func94.trans (congrArg some (by kernel_rfl))
  f278 := Tryd.func106.trans (congrArg some (by kernel_rfl))
  f313 := Tryd.func105.trans (congrArg some (by kernel_rfl))
  t0 := Tryd.underlying0
  a0 := Tryd.isAgg0
  z0 := Tryd.sizeOf0
  v0 := Tryd.zeroValue0
  t3 := Tryd.underlying3
  a3 := Tryd.isAgg3
  z3 := Tryd.sizeOf3
  v3 := Tryd.zeroValue3
  t4 := Tryd.underlying4
  a4 := Tryd.isAgg4
  z4 := Tryd.sizeOf4
  v4 := Tryd.zeroValue4
  t5 := Tryd.underlying5
  a5 := Tryd.isAgg5
  z5 := Tryd.sizeOf5
  v5 := Tryd.zeroValue5
  t9 := Tryd.underlying9
  a9 := Tryd.isAgg9
  z9 := Tryd.sizeOf9
  v9 := Tryd.zeroValue9
  t20 := Tryd.underlying20
  a20 := Tryd.isAgg20
  z20 := Tryd.sizeOf20
  v20 := Tryd.zeroValue20
  t21 := Tryd.underlying21
  a21 := Tryd.isAgg21
  z21 := Tryd.sizeOf21
  v21 := Tryd.zeroValue21
  t37 := Tryd.underlying72
  a37 := Tryd.isAgg72
  z37 := Tryd.sizeOf72
  v37 := Tryd.zeroValue72
  t46 := Tryd.underlying99
  a46 := Tryd.isAgg99
  z46 := Tryd.sizeOf99
  v46 := Tryd.zeroValue99
  t51 := Tryd.underlying124
  a51 := Tryd.isAgg124
  z51 := Tryd.sizeOf124
  v51 := Tryd.zeroValue124
  t70 := Tryd.underlying103
  a70 := Tryd.isAgg103
  z70 := Tryd.sizeOf103
  v70 := Tryd.zeroValue103
  t72 := Tryd.underlying105
  a72 := Tryd.isAgg105
  z72 := Tryd.sizeOf105
  v72 := Tryd.zeroValue105
  t75 := Tryd.underlying68
  a75 := Tryd.isAgg68
  z75 := Tryd.sizeOf68
  v75 := Tryd.zeroValue68
  t76 := Tryd.underlying107
  a76 := Tryd.isAgg107
  z76 := Tryd.sizeOf107
  v76 := Tryd.zeroValue107
  t105 := Tryd.underlying144
  a105 := Tryd.isAgg144
  z105 := Tryd.sizeOf144
  v105 := Tryd.zeroValue144
  t107 := Tryd.underlying133
  a107 := Tryd.isAgg133
  z107 := Tryd.sizeOf133
  v107 := Tryd.zeroValue133
  t119 := Tryd.underlying156
  a119 := Tryd.isAgg156
  z119 := Tryd.sizeOf156
  t127 := Tryd.underlying129
  a127 := Tryd.isAgg129
  z127 := Tryd.sizeOf129
  v127 := Tryd.zeroValue129
  t138 := Tryd.underlying158
  a138 := Tryd.isAgg158
  z138 := Tryd.sizeOf158
  v138 := Tryd.zeroValue158
  t139 := Tryd.underlying159
  a139 := Tryd.isAgg159
  z139 := Tryd.sizeOf159
  v139 := Tryd.zeroValue159
  t160 := Tryd.underlying160
  a160 := Tryd.isAgg160
  z160 := Tryd.sizeOf160
  v160 := Tryd.zeroValue160
  t162 := Tryd.underlying153
  a162 := Tryd.isAgg153
  z162 := Tryd.sizeOf153
  v162 := Tryd.zeroValue153
  t164 := Tryd.underlying140
  a164 := Tryd.isAgg140
  z164 := Tryd.sizeOf140
  v164 := Tryd.zeroValue140
  t203 := Tryd.underlying151
  a203 := Tryd.isAgg151
  z203 := Tryd.sizeOf151
  v203 := Tryd.zeroValue151
  t206 := Tryd.underlying164
  a206 := Tryd.isAgg164
  z206 := Tryd.sizeOf164
  v206 := Tryd.zeroValue164
  t208 := Tryd.underlying166
  a208 := Tryd.isAgg166
  z208 := Tryd.sizeOf166
  v208 := Tryd.zeroValue166
  g3 := by kernel_rfl
  g4 := by kernel_rfl
  g13 := by kernel_rfl }
theorem Tryd.Builder_Extra_158 : Builder.Extra Tryd.prog Tryd.lays158_ren := {
  sizeBuilder := by kernel_rfl
  liesBuilder := by kernel_rfl
  t5 := Tryd.underlying5
  a5 := Tryd.isAgg5
  z5 := Tryd.sizeOf5
  v5 := Tryd.zeroValue5
  infoByte := by kernel_rfl
  cellsByte := by kernel_rfl
  sizeByte := by kernel_rfl
  neB5 := by decide }
open Go.RowKit in
/-- strings.ToUpper: "ToUpper returns s with all Unicode letters mapped to their upper case.": ON ASCII TEXT OF AT MOST 2^47 BYTES. Below the heap's end the world is as it was: where a letter turns, the call makes a builder and its buffer. (LAID: no walk: one application.) -/
theorem Tryd.strings_ToUpper_ascii (s : ByteArray) (w : World) (hs : s.size ≤ 140737488355328) (hascii : ∀ (j : Nat) (b : UInt8), s.data.toList[j]? = some b → b.toNat < 128) :
    Calls Tryd.prog 72 #[.string s] w fun e w' => e = .returned (.string ⟨(Lib.toUpperA s.data.toList).toArray⟩) ∧ Below w.heap.size w w' := Any.strings_ToUpper_ascii Tryd.lays158 Tryd.Builder_Extra_158 s w hs hascii
def Tryd.laysM173_ren : Go.Shelf.Ren := ⟨fun | 173 => 45 | 246 => 64 | 283 => 75 | 284 => 76 | 285 => 77 | 286 => 78 | 129 => 89 | 317 => 88 | 318 => 90 | 319 => 91 | 320 => 92 | 337 => 101 | 338 => 102 | n => n, fun | 2 => 2 | 3 => 3 | 9 => 9 | 4 => 4 | 171 => 119 | 0 => 0 | 53 => 48 | 37 => 72 | 5 => 5 | 173 => 122 | 212 => 136 | 51 => 124 | 20 => 20 | 213 => 137 | 46 => 99 | 232 => 154 | 233 => 155 | n => n, fun | 17 => 1 | 18 => 4 | 19 => 5 | n => n⟩
theorem Tryd.laysM173 : Go.Proofs.LaysM.n173 Tryd.prog Tryd.laysM173_ren := {
  mixed := by kernel_rfl
  f129 := Tryd.func89.trans (congrArg some (by kernel_rfl))
  f173 := Tryd.func45.trans (congrArg some (by kernel_rfl))
  f246 := Tryd.func64.trans (congrArg some (by kernel_rfl))
  f283 := Tryd.func75.trans (congrArg some (by kernel_rfl))
  f284 := Tryd.func76.trans (congrArg some (by kernel_rfl))
  f285 := Tryd.func77.trans (congrArg some (by kernel_rfl))
  f286 := Tryd.func78.trans (congrArg some (by kernel_rfl))
  f317 := Tryd.func88.trans (congrArg some (by kernel_rfl))
  f318 := Tryd.func90.trans (congrArg some (by kernel_rfl))
  f319 := Tryd.func91.trans (congrArg some (by kernel_rfl))
  f320 := Tryd.func92.trans (congrArg some (by kernel_rfl))
  f337 := Tryd.func101.trans (congrArg some (by kernel_rfl))
  f338 := Tryd.func102.trans (congrArg some (by kernel_rfl))
  t0 := Tryd.underlying0
  a0 := Tryd.isAgg0
  z0 := Tryd.sizeOf0
  v0 := Tryd.zeroValue0
  t2 := Tryd.underlying2
  a2 := Tryd.isAgg2
  z2 := Tryd.sizeOf2
  v2 := Tryd.zeroValue2
  t3 := Tryd.underlying3
  a3 := Tryd.isAgg3
  z3 := Tryd.sizeOf3
  v3 := Tryd.zeroValue3
  t4 := Tryd.underlying4
  a4 := Tryd.isAgg4
  z4 := Tryd.sizeOf4
  v4 := Tryd.zeroValue4
  t5 := Tryd.underlying5
  a5 := Tryd.isAgg5
  z5 := Tryd.sizeOf5
  v5 := Tryd.zeroValue5
  t9 := Tryd.underlying9
  a9 := Tryd.isAgg9
  z9 := Tryd.sizeOf9
  v9 := Tryd.zeroValue9
  t20 := Tryd.underlying20
  a20 := Tryd.isAgg20
  z20 := Tryd.sizeOf20
  v20 := Tryd.zeroValue20
  t37 := Tryd.underlying72
  a37 := Tryd.isAgg72
  z37 := Tryd.sizeOf72
  v37 := Tryd.zeroValue72
  t46 := Tryd.underlying99
  a46 := Tryd.isAgg99
  z46 := Tryd.sizeOf99
  v46 := Tryd.zeroValue99
  t51 := Tryd.underlying124
  a51 := Tryd.isAgg124
  z51 := Tryd.sizeOf124
  v51 := Tryd.zeroValue124
  t53 := Tryd.underlying48
  a53 := Tryd.isAgg48
  z53 := Tryd.sizeOf48
  v53 := Tryd.zeroValue48
  t171 := Tryd.underlying119
  a171 := Tryd.isAgg119
  z171 := Tryd.sizeOf119
  v171 := Tryd.zeroValue119
  t173 := Tryd.underlying122
  a173 := Tryd.isAgg122
  z173 := Tryd.sizeOf122
  v173 := Tryd.zeroValue122
  t212 := Tryd.underlying136
  a212 := Tryd.isAgg136
  z212 := Tryd.sizeOf136
  v212 := Tryd.zeroValue136
  t213 := Tryd.underlying137
  a213 := Tryd.isAgg137
  z213 := Tryd.sizeOf137
  t232 := Tryd.underlying154
  a232 := Tryd.isAgg154
  z232 := Tryd.sizeOf154
  v232 := Tryd.zeroValue154
  t233 := Tryd.underlying155
  a233 := Tryd.isAgg155
  z233 := Tryd.sizeOf155
  v233 := Tryd.zeroValue155
  g17 := by kernel_rfl
  g18 := by kernel_rfl
  g19 := by kernel_rfl
  i0 := by kernel_rfl
  i2 := by kernel_rfl
  i3 := by kernel_rfl
  i4 := by kernel_rfl
  i5 := by kernel_rfl
  i9 := by kernel_rfl
  i20 := by kernel_rfl
  i37 := by kernel_rfl
  i46 := by kernel_rfl
  i51 := by kernel_rfl
  i53 := by kernel_rfl
  i171 := by kernel_rfl
  i173 := by kernel_rfl
  i212 := by kernel_rfl
  i232 := by kernel_rfl
  i233 := by kernel_rfl
  m17 := by kernel_rfl
  m18 := by kernel_rfl
  m19 := by kernel_rfl }
open Go.RowKit Go.Sort Go.Lib in
/-- strconv.FormatInt: "FormatInt returns the string representation of i in the given base": AT BASE 10: i's decimal numeral, for every int64. (LAID: no walk: one application.) -/
theorem Tryd.strconv_FormatInt_10 (n : Int) (h0 : -9223372036854775808 ≤ n) (h1 : n ≤ 9223372036854775807) (w : World) (htab : Lib.TabIs Tryd.prog w "internal/strconv.uint64pow10" .u64 Lib.pow10Tab) :
    Calls Tryd.prog 45 #[.int .i64 n, .int .i64 10] w fun e w' => e = .returned (.string ⟨(Lib.itoa n).toArray⟩) ∧ ∃ k os, w' = grow (w.drewN k) os := Any.strconv_FormatInt_10 Tryd.laysM173 n h0 h1 w htab
def Tryd.lays105_ren : Go.Shelf.Ren := ⟨fun | 105 => 47 | 212 => 65 | 99 => 66 | 165 => 67 | 166 => 68 | 170 => 69 | 169 => 70 | 263 => 79 | 264 => 80 | 206 => 81 | 240 => 82 | 241 => 83 | 276 => 93 | 277 => 94 | n => n, fun | 9 => 9 | 3 => 3 | 4 => 4 | 20 => 20 | 0 => 0 | 46 => 99 | 109 => 100 | 5 => 5 | 72 => 105 | 76 => 107 | 51 => 124 | 146 => 125 | 53 => 48 | 148 => 127 | 70 => 103 | 37 => 72 | 75 => 68 | 127 => 129 | 164 => 140 | 80 => 64 | n => n, fun | n => n⟩
theorem Tryd.lays105 : Go.Proofs.Lays.n105 Tryd.prog Tryd.lays105_ren := {
  mixed := by kernel_rfl
  f99 := Tryd.func66.trans (congrArg some (by kernel_rfl))
  f105 := Tryd.func47.trans (congrArg some (by kernel_rfl))
  f165 := Tryd.func67.trans (congrArg some (by kernel_rfl))
  f166 := Tryd.func68.trans (congrArg some (by kernel_rfl))
  f169 := Tryd.func70.trans (congrArg some (by kernel_rfl))
  f170 := Tryd.func69.trans (congrArg some (by kernel_rfl))
  f206 := Tryd.func81.trans (congrArg some (by kernel_rfl))
  f212 := Tryd.func65.trans (congrArg some (by kernel_rfl))
  f240 := Tryd.func82.trans (congrArg some (by kernel_rfl))
  f241 := Tryd.func83.trans (congrArg some (by kernel_rfl))
  f263 := Tryd.func79.trans (congrArg some (by kernel_rfl))
  f264 := Tryd.func80.trans (congrArg some (by kernel_rfl))
  f276 := Tryd.func93.trans (congrArg some (by kernel_rfl))
  f277 := Tryd.func94.trans (congrArg some (by kernel_rfl))
  t0 := Tryd.underlying0
  a0 := Tryd.isAgg0
  z0 := Tryd.sizeOf0
  v0 := Tryd.zeroValue0
  t3 := Tryd.underlying3
  a3 := Tryd.isAgg3
  z3 := Tryd.sizeOf3
  v3 := Tryd.zeroValue3
  t4 := Tryd.underlying4
  a4 := Tryd.isAgg4
  z4 := Tryd.sizeOf4
  v4 := Tryd.zeroValue4
  t5 := Tryd.underlying5
  a5 := Tryd.isAgg5
  z5 := Tryd.sizeOf5
  v5 := Tryd.zeroValue5
  t9 := Tryd.underlying9
  a9 := Tryd.isAgg9
  z9 := Tryd.sizeOf9
  v9 := Tryd.zeroValue9
  t20 := Tryd.underlying20
  a20 := Tryd.isAgg20
  z20 := Tryd.sizeOf20
  v20 := Tryd.zeroValue20
  t37 := Tryd.underlying72
  a37 := Tryd.isAgg72
  z37 := Tryd.sizeOf72
  v37 := Tryd.zeroValue72
  t46 := Tryd.underlying99
  a46 := Tryd.isAgg99
  z46 := Tryd.sizeOf99
  v46 := Tryd.zeroValue99
  t51 := Tryd.underlying124
  a51 := Tryd.isAgg124
  z51 := Tryd.sizeOf124
  v51 := Tryd.zeroValue124
  t53 := Tryd.underlying48
  a53 := Tryd.isAgg48
  z53 := Tryd.sizeOf48
  v53 := Tryd.zeroValue48
  t70 := Tryd.underlying103
  a70 := Tryd.isAgg103
  z70 := Tryd.sizeOf103
  v70 := Tryd.zeroValue103
  t72 := Tryd.underlying105
  a72 := Tryd.isAgg105
  z72 := Tryd.sizeOf105
  v72 := Tryd.zeroValue105
  t75 := Tryd.underlying68
  a75 := Tryd.isAgg68
  z75 := Tryd.sizeOf68
  v75 := Tryd.zeroValue68
  t76 := Tryd.underlying107
  a76 := Tryd.isAgg107
  z76 := Tryd.sizeOf107
  v76 := Tryd.zeroValue107
  t109 := Tryd.underlying100
  a109 := Tryd.isAgg100
  z109 := Tryd.sizeOf100
  v109 := Tryd.zeroValue100
  t127 := Tryd.underlying129
  a127 := Tryd.isAgg129
  z127 := Tryd.sizeOf129
  v127 := Tryd.zeroValue129
  t146 := Tryd.underlying125
  a146 := Tryd.isAgg125
  z146 := Tryd.sizeOf125
  v146 := Tryd.zeroValue125
  t148 := Tryd.underlying127
  a148 := Tryd.isAgg127
  z148 := Tryd.sizeOf127
  v148 := Tryd.zeroValue127
  t164 := Tryd.underlying140
  a164 := Tryd.isAgg140
  z164 := Tryd.sizeOf140
  v164 := Tryd.zeroValue140 }
theorem Tryd.Builder_Extra_105 : Builder.Extra Tryd.prog Tryd.lays105_ren := {
  sizeBuilder := by kernel_rfl
  liesBuilder := by kernel_rfl
  t5 := Tryd.underlying5
  a5 := Tryd.isAgg5
  z5 := Tryd.sizeOf5
  v5 := Tryd.zeroValue5
  infoByte := by kernel_rfl
  cellsByte := by kernel_rfl
  sizeByte := by kernel_rfl
  neB5 := by decide }
open Go.RowKit Go.Lib in
/-- **strings.Repeat: count ≥ 0, the result within one allocation: count copies of s.** (LAID: no walk: one application.) -/
theorem Tryd.strings_Repeat (s : ByteArray) (c : Nat) (w : World) (hc : c ≤ 9223372036854775807) (hlen : s.size * c ≤ 140737488355328) :
    Calls Tryd.prog 47 #[.string s, .int .i64 c] w fun e w' => e = .returned (.string ⟨(Lib.repeatL s.data.toList c).toArray⟩) ∧ Below w.heap.size w w' := Any.strings_Repeat Tryd.lays105 Tryd.Builder_Extra_105 s c w hc hlen
end Go.Proofs
