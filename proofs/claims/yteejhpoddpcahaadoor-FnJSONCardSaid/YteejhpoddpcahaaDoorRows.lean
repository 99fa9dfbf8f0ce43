/-
  NARROWER THAN 'FOR EVERY INPUT', by the rows' own cells (each row's printed sentence says how): FnFormat: ifaces, laid · FnDisplay: ifaces, laid · FnSplit: ifaces, laid · FnAllocate: ifaces, laid · FnRatios: ifaces, laid · FnEven: ifaces, laid · FnNoLoss: ifaces, laid · FnJSON: laid.
  DERIVED. THE GIVEN ROWS OF THIS SEAT. 8 by the template 'for every input the law returns true; each argument reads behind the call as it read before'; 0 by the template 'total and deterministic' (their statements: YteejhpoddpcahaaDoorTotals.lean).
  GIVEN WITH THE SEED: the statements are not yours to turn. If you find one false, say at which input.
  Laid BY PROGRAM, IN A SANDBOX (cutbox-rows.mjs): the forced cells as the released guide's own fill.sh prints them over the translation 02288919af5a8900… (all of the seat's roots in one cut). By AI agents, Wed Nov 11 2026. No macro, syntax, notation, axiom, sorry.
-/
import Derived.Test.YteejhpoddpcahaaDoorChecked
import GoSem.PinnedTables
import GoSem.Claim
import GoSem.ClaimJoined
import GoSem.ClaimMapViews
import Derived.JoinedTies
import Derived.KernelRfl
namespace Go.Proofs.YteejhpoddpcahaaDoor
/- THE CELL 'sum', in the pinned program and in every row, IS THE sha256 OF THE DUMP (.gsa) THAT YteejhpoddpcahaaDoorProg.lean LOADS. Nothing in Lean hashes anything: it is a label: what it is worth is what the hold of that sum in a sandbox is worth. -/
noncomputable def Tryd.pinned : Pinned := { name := "yteejhpoddpcahaadoor", sum := "02288919af5a89009ef57e08c8e231baef1b1b3f22fd7aba3ee38a33cee730f3", checked := Tryd.checked }
namespace Rows
def none {H : Type} : Left H := { results := [], args := [] }

/- WHAT THE LISTED PACKAGE-LEVEL VARIABLES READ AS WHEN THE CALL BEGINS. Each datum BY PROGRAM (the guide's laid-datum.mjs) off the statement by which the dump's own 'gosem.cut.vars' lays the variable. In a bare row this is a premise. The card (YteejhpoddpcahaaDoorCards.lean) ties it to the program's text. -/
def laid_math_bits_deBruijn32tab {H : Type} : DataW H := .agg [.lit (.int .u8 0), .lit (.int .u8 1), .lit (.int .u8 28), .lit (.int .u8 2), .lit (.int .u8 29), .lit (.int .u8 14), .lit (.int .u8 24), .lit (.int .u8 3), .lit (.int .u8 30), .lit (.int .u8 22), .lit (.int .u8 20), .lit (.int .u8 15), .lit (.int .u8 25), .lit (.int .u8 17), .lit (.int .u8 4), .lit (.int .u8 8), .lit (.int .u8 31), .lit (.int .u8 27), .lit (.int .u8 13), .lit (.int .u8 23), .lit (.int .u8 21), .lit (.int .u8 19), .lit (.int .u8 16), .lit (.int .u8 7), .lit (.int .u8 26), .lit (.int .u8 12), .lit (.int .u8 18), .lit (.int .u8 6), .lit (.int .u8 11), .lit (.int .u8 5), .lit (.int .u8 10), .lit (.int .u8 9)]
def laid_math_bits_deBruijn64tab {H : Type} : DataW H := .agg [.lit (.int .u8 0), .lit (.int .u8 1), .lit (.int .u8 56), .lit (.int .u8 2), .lit (.int .u8 57), .lit (.int .u8 49), .lit (.int .u8 28), .lit (.int .u8 3), .lit (.int .u8 61), .lit (.int .u8 58), .lit (.int .u8 42), .lit (.int .u8 50), .lit (.int .u8 38), .lit (.int .u8 29), .lit (.int .u8 17), .lit (.int .u8 4), .lit (.int .u8 62), .lit (.int .u8 47), .lit (.int .u8 59), .lit (.int .u8 36), .lit (.int .u8 45), .lit (.int .u8 43), .lit (.int .u8 51), .lit (.int .u8 22), .lit (.int .u8 53), .lit (.int .u8 39), .lit (.int .u8 33), .lit (.int .u8 30), .lit (.int .u8 24), .lit (.int .u8 18), .lit (.int .u8 12), .lit (.int .u8 5), .lit (.int .u8 63), .lit (.int .u8 55), .lit (.int .u8 48), .lit (.int .u8 27), .lit (.int .u8 60), .lit (.int .u8 41), .lit (.int .u8 37), .lit (.int .u8 16), .lit (.int .u8 46), .lit (.int .u8 35), .lit (.int .u8 44), .lit (.int .u8 21), .lit (.int .u8 52), .lit (.int .u8 32), .lit (.int .u8 23), .lit (.int .u8 11), .lit (.int .u8 54), .lit (.int .u8 26), .lit (.int .u8 40), .lit (.int .u8 15), .lit (.int .u8 34), .lit (.int .u8 20), .lit (.int .u8 31), .lit (.int .u8 10), .lit (.int .u8 25), .lit (.int .u8 14), .lit (.int .u8 19), .lit (.int .u8 9), .lit (.int .u8 13), .lit (.int .u8 8), .lit (.int .u8 7), .lit (.int .u8 6)]
def laid_internal_strconv_uint64pow10 {H : Type} : DataW H := .agg [.lit (.int .u64 1), .lit (.int .u64 10), .lit (.int .u64 100), .lit (.int .u64 1000), .lit (.int .u64 10000), .lit (.int .u64 100000), .lit (.int .u64 1000000), .lit (.int .u64 10000000), .lit (.int .u64 100000000), .lit (.int .u64 1000000000), .lit (.int .u64 10000000000), .lit (.int .u64 100000000000), .lit (.int .u64 1000000000000), .lit (.int .u64 10000000000000), .lit (.int .u64 100000000000000), .lit (.int .u64 1000000000000000), .lit (.int .u64 10000000000000000), .lit (.int .u64 100000000000000000), .lit (.int .u64 1000000000000000000), .lit (.int .u64 10000000000000000000)]
def laid_unicode_utf8_acceptRanges {H : Type} : DataW H := .agg [.agg [.lit (.int .u8 128), .lit (.int .u8 191)], .agg [.lit (.int .u8 160), .lit (.int .u8 191)], .agg [.lit (.int .u8 128), .lit (.int .u8 159)], .agg [.lit (.int .u8 144), .lit (.int .u8 191)], .agg [.lit (.int .u8 128), .lit (.int .u8 143)], .agg [.lit (.int .u8 0), .lit (.int .u8 0)], .agg [.lit (.int .u8 0), .lit (.int .u8 0)], .agg [.lit (.int .u8 0), .lit (.int .u8 0)], .agg [.lit (.int .u8 0), .lit (.int .u8 0)], .agg [.lit (.int .u8 0), .lit (.int .u8 0)], .agg [.lit (.int .u8 0), .lit (.int .u8 0)], .agg [.lit (.int .u8 0), .lit (.int .u8 0)], .agg [.lit (.int .u8 0), .lit (.int .u8 0)], .agg [.lit (.int .u8 0), .lit (.int .u8 0)], .agg [.lit (.int .u8 0), .lit (.int .u8 0)], .agg [.lit (.int .u8 0), .lit (.int .u8 0)]]
def laid_loop_example_pub_g03265_pub_money_ErrCurrencyMismatch {H : Type} : DataW H := .iface "*errors.errorString" (.ptr (.agg [.lit (.string [99, 117, 114, 114, 101, 110, 99, 105, 101, 115, 32, 100, 111, 110, 39, 116, 32, 109, 97, 116, 99, 104])]))
/-- One of Go's own tables, pinned by name: the form's constant. -/
def laid_unicode_CaseRanges : DataW Unit := Go.Pinned.caseRanges
/-- One of Go's own tables, pinned by name: the form's constant. -/
def laid_unicode_utf8_first : DataW Unit := Go.Pinned.utf8First

/-- 'laws.FnFormat': WHATEVER THE INPUT: true; the input reads as it did. -/
def fnFormatSpec : ChangeSpec := { name := "fnFormat", vars := ["loop.example/pub-g03265/pub/money.ErrCurrencyMismatch"], fn := fun _ => fun
  | [d1, d2, g1] => { results := [.lit (.bool true)], args := [d1, d2], vars := [g1] }
  | _ => none }
def fnFormatRow : OpenClaim := { program := "yteejhpoddpcahaadoor", sum := "02288919af5a89009ef57e08c8e231baef1b1b3f22fd7aba3ee38a33cee730f3", func := "loop.example/pub-g03265/laws.FnFormat", spec := "fnFormat", inPlace := ["internal/abi.NoEscape", "internal/bytealg.MakeNoZero"], unfollowed := true, recurses := true, named := ["internal/strconv.uint64pow10", "math/bits.deBruijn32tab", "math/bits.deBruijn64tab", "unicode/utf8.first", "unicode/utf8.acceptRanges", "unicode.CaseRanges", "loop.example/pub-g03265/pub/money.ErrCurrencyMismatch"], ifaces := true, apart := false, laid := [("math/bits.deBruijn32tab", laid_math_bits_deBruijn32tab), ("math/bits.deBruijn64tab", laid_math_bits_deBruijn64tab), ("internal/strconv.uint64pow10", laid_internal_strconv_uint64pow10), ("unicode/utf8.acceptRanges", laid_unicode_utf8_acceptRanges), ("loop.example/pub-g03265/pub/money.ErrCurrencyMismatch", laid_loop_example_pub_g03265_pub_money_ErrCurrencyMismatch), ("unicode.CaseRanges", laid_unicode_CaseRanges), ("unicode/utf8.first", laid_unicode_utf8_first)] }
def FnFormatSaid : Prop := fnFormatRow.holds Tryd.pinned (OpenSpec.ofChange fnFormatSpec)

/-- ITS FALSE NEIGHBOUR: 'it returns false'. Refute it at one input. -/
def fnFormatWrong : ChangeSpec := { name := "fnFormat", vars := ["loop.example/pub-g03265/pub/money.ErrCurrencyMismatch"], fn := fun _ => fun
  | [d1, d2, g1] => { results := [.lit (.bool false)], args := [d1, d2], vars := [g1] }
  | _ => none }
def FnFormatWrongFalsely : Prop := fnFormatRow.holds Tryd.pinned (OpenSpec.ofChange fnFormatWrong)

/-- 'laws.FnDisplay': WHATEVER THE INPUT: true; the input reads as it did. -/
def fnDisplaySpec : ChangeSpec := { name := "fnDisplay", vars := ["loop.example/pub-g03265/pub/money.ErrCurrencyMismatch"], fn := fun _ => fun
  | [d1, d2, g1] => { results := [.lit (.bool true)], args := [d1, d2], vars := [g1] }
  | _ => none }
def fnDisplayRow : OpenClaim := { program := "yteejhpoddpcahaadoor", sum := "02288919af5a89009ef57e08c8e231baef1b1b3f22fd7aba3ee38a33cee730f3", func := "loop.example/pub-g03265/laws.FnDisplay", spec := "fnDisplay", inPlace := ["internal/abi.NoEscape", "internal/bytealg.MakeNoZero"], unfollowed := true, recurses := true, named := ["unicode/utf8.first", "unicode/utf8.acceptRanges", "unicode.CaseRanges", "internal/strconv.uint64pow10", "math/bits.deBruijn32tab", "math/bits.deBruijn64tab", "loop.example/pub-g03265/pub/money.ErrCurrencyMismatch"], ifaces := true, apart := false, laid := [("math/bits.deBruijn32tab", laid_math_bits_deBruijn32tab), ("math/bits.deBruijn64tab", laid_math_bits_deBruijn64tab), ("internal/strconv.uint64pow10", laid_internal_strconv_uint64pow10), ("unicode/utf8.acceptRanges", laid_unicode_utf8_acceptRanges), ("loop.example/pub-g03265/pub/money.ErrCurrencyMismatch", laid_loop_example_pub_g03265_pub_money_ErrCurrencyMismatch), ("unicode.CaseRanges", laid_unicode_CaseRanges), ("unicode/utf8.first", laid_unicode_utf8_first)] }
def FnDisplaySaid : Prop := fnDisplayRow.holds Tryd.pinned (OpenSpec.ofChange fnDisplaySpec)

/-- ITS FALSE NEIGHBOUR: 'it returns false'. Refute it at one input. -/
def fnDisplayWrong : ChangeSpec := { name := "fnDisplay", vars := ["loop.example/pub-g03265/pub/money.ErrCurrencyMismatch"], fn := fun _ => fun
  | [d1, d2, g1] => { results := [.lit (.bool false)], args := [d1, d2], vars := [g1] }
  | _ => none }
def FnDisplayWrongFalsely : Prop := fnDisplayRow.holds Tryd.pinned (OpenSpec.ofChange fnDisplayWrong)

/-- 'laws.FnSplit': WHATEVER THE INPUT: true; the input reads as it did. -/
def fnSplitSpec : ChangeSpec := { name := "fnSplit", vars := ["loop.example/pub-g03265/pub/money.ErrCurrencyMismatch"], fn := fun _ => fun
  | [d1, d2, d3, g1] => { results := [.lit (.bool true)], args := [d1, d2, d3], vars := [g1] }
  | _ => none }
def fnSplitRow : OpenClaim := { program := "yteejhpoddpcahaadoor", sum := "02288919af5a89009ef57e08c8e231baef1b1b3f22fd7aba3ee38a33cee730f3", func := "loop.example/pub-g03265/laws.FnSplit", spec := "fnSplit", inPlace := ["internal/abi.NoEscape", "internal/bytealg.MakeNoZero"], unfollowed := true, recurses := true, named := ["unicode/utf8.first", "unicode/utf8.acceptRanges", "unicode.CaseRanges", "loop.example/pub-g03265/pub/money.ErrCurrencyMismatch"], ifaces := true, apart := false, laid := [("unicode/utf8.acceptRanges", laid_unicode_utf8_acceptRanges), ("loop.example/pub-g03265/pub/money.ErrCurrencyMismatch", laid_loop_example_pub_g03265_pub_money_ErrCurrencyMismatch), ("unicode.CaseRanges", laid_unicode_CaseRanges), ("unicode/utf8.first", laid_unicode_utf8_first)] }
def FnSplitSaid : Prop := fnSplitRow.holds Tryd.pinned (OpenSpec.ofChange fnSplitSpec)

/-- ITS FALSE NEIGHBOUR: 'it returns false'. Refute it at one input. -/
def fnSplitWrong : ChangeSpec := { name := "fnSplit", vars := ["loop.example/pub-g03265/pub/money.ErrCurrencyMismatch"], fn := fun _ => fun
  | [d1, d2, d3, g1] => { results := [.lit (.bool false)], args := [d1, d2, d3], vars := [g1] }
  | _ => none }
def FnSplitWrongFalsely : Prop := fnSplitRow.holds Tryd.pinned (OpenSpec.ofChange fnSplitWrong)

/-- 'laws.FnAllocate': WHATEVER THE INPUT: true; the input reads as it did. -/
def fnAllocateSpec : ChangeSpec := { name := "fnAllocate", vars := ["loop.example/pub-g03265/pub/money.ErrCurrencyMismatch"], fn := fun _ => fun
  | [d1, d2, d3, g1] => { results := [.lit (.bool true)], args := [d1, d2, d3], vars := [g1] }
  | _ => none }
def fnAllocateRow : OpenClaim := { program := "yteejhpoddpcahaadoor", sum := "02288919af5a89009ef57e08c8e231baef1b1b3f22fd7aba3ee38a33cee730f3", func := "loop.example/pub-g03265/laws.FnAllocate", spec := "fnAllocate", inPlace := ["internal/abi.NoEscape", "internal/bytealg.MakeNoZero"], unfollowed := true, recurses := true, named := ["unicode/utf8.first", "unicode/utf8.acceptRanges", "unicode.CaseRanges", "loop.example/pub-g03265/pub/money.ErrCurrencyMismatch"], ifaces := true, apart := false, laid := [("unicode/utf8.acceptRanges", laid_unicode_utf8_acceptRanges), ("loop.example/pub-g03265/pub/money.ErrCurrencyMismatch", laid_loop_example_pub_g03265_pub_money_ErrCurrencyMismatch), ("unicode.CaseRanges", laid_unicode_CaseRanges), ("unicode/utf8.first", laid_unicode_utf8_first)] }
def FnAllocateSaid : Prop := fnAllocateRow.holds Tryd.pinned (OpenSpec.ofChange fnAllocateSpec)

/-- ITS FALSE NEIGHBOUR: 'it returns false'. Refute it at one input. -/
def fnAllocateWrong : ChangeSpec := { name := "fnAllocate", vars := ["loop.example/pub-g03265/pub/money.ErrCurrencyMismatch"], fn := fun _ => fun
  | [d1, d2, d3, g1] => { results := [.lit (.bool false)], args := [d1, d2, d3], vars := [g1] }
  | _ => none }
def FnAllocateWrongFalsely : Prop := fnAllocateRow.holds Tryd.pinned (OpenSpec.ofChange fnAllocateWrong)

/-- 'laws.FnRatios': WHATEVER THE INPUT: true; the input reads as it did. -/
def fnRatiosSpec : ChangeSpec := { name := "fnRatios", vars := ["loop.example/pub-g03265/pub/money.ErrCurrencyMismatch"], fn := fun _ => fun
  | [d1, d2, d3, g1] => { results := [.lit (.bool true)], args := [d1, d2, d3], vars := [g1] }
  | _ => none }
def fnRatiosRow : OpenClaim := { program := "yteejhpoddpcahaadoor", sum := "02288919af5a89009ef57e08c8e231baef1b1b3f22fd7aba3ee38a33cee730f3", func := "loop.example/pub-g03265/laws.FnRatios", spec := "fnRatios", inPlace := ["internal/abi.NoEscape", "internal/bytealg.MakeNoZero"], unfollowed := true, recurses := true, named := ["unicode/utf8.first", "unicode/utf8.acceptRanges", "unicode.CaseRanges", "loop.example/pub-g03265/pub/money.ErrCurrencyMismatch"], ifaces := true, apart := false, laid := [("unicode/utf8.acceptRanges", laid_unicode_utf8_acceptRanges), ("loop.example/pub-g03265/pub/money.ErrCurrencyMismatch", laid_loop_example_pub_g03265_pub_money_ErrCurrencyMismatch), ("unicode.CaseRanges", laid_unicode_CaseRanges), ("unicode/utf8.first", laid_unicode_utf8_first)] }
def FnRatiosSaid : Prop := fnRatiosRow.holds Tryd.pinned (OpenSpec.ofChange fnRatiosSpec)

/-- ITS FALSE NEIGHBOUR: 'it returns false'. Refute it at one input. -/
def fnRatiosWrong : ChangeSpec := { name := "fnRatios", vars := ["loop.example/pub-g03265/pub/money.ErrCurrencyMismatch"], fn := fun _ => fun
  | [d1, d2, d3, g1] => { results := [.lit (.bool false)], args := [d1, d2, d3], vars := [g1] }
  | _ => none }
def FnRatiosWrongFalsely : Prop := fnRatiosRow.holds Tryd.pinned (OpenSpec.ofChange fnRatiosWrong)

/-- 'laws.FnEven': WHATEVER THE INPUT: true; the input reads as it did. -/
def fnEvenSpec : ChangeSpec := { name := "fnEven", vars := ["loop.example/pub-g03265/pub/money.ErrCurrencyMismatch"], fn := fun _ => fun
  | [d1, d2, d3, d4, g1] => { results := [.lit (.bool true)], args := [d1, d2, d3, d4], vars := [g1] }
  | _ => none }
def fnEvenRow : OpenClaim := { program := "yteejhpoddpcahaadoor", sum := "02288919af5a89009ef57e08c8e231baef1b1b3f22fd7aba3ee38a33cee730f3", func := "loop.example/pub-g03265/laws.FnEven", spec := "fnEven", inPlace := ["internal/abi.NoEscape", "internal/bytealg.MakeNoZero"], unfollowed := true, recurses := true, named := ["unicode/utf8.first", "unicode/utf8.acceptRanges", "unicode.CaseRanges", "loop.example/pub-g03265/pub/money.ErrCurrencyMismatch"], ifaces := true, apart := false, laid := [("unicode/utf8.acceptRanges", laid_unicode_utf8_acceptRanges), ("loop.example/pub-g03265/pub/money.ErrCurrencyMismatch", laid_loop_example_pub_g03265_pub_money_ErrCurrencyMismatch), ("unicode.CaseRanges", laid_unicode_CaseRanges), ("unicode/utf8.first", laid_unicode_utf8_first)] }
def FnEvenSaid : Prop := fnEvenRow.holds Tryd.pinned (OpenSpec.ofChange fnEvenSpec)

/-- ITS FALSE NEIGHBOUR: 'it returns false'. Refute it at one input. -/
def fnEvenWrong : ChangeSpec := { name := "fnEven", vars := ["loop.example/pub-g03265/pub/money.ErrCurrencyMismatch"], fn := fun _ => fun
  | [d1, d2, d3, d4, g1] => { results := [.lit (.bool false)], args := [d1, d2, d3, d4], vars := [g1] }
  | _ => none }
def FnEvenWrongFalsely : Prop := fnEvenRow.holds Tryd.pinned (OpenSpec.ofChange fnEvenWrong)

/-- 'laws.FnNoLoss': WHATEVER THE INPUT: true; the input reads as it did. -/
def fnNoLossSpec : ChangeSpec := { name := "fnNoLoss", vars := ["loop.example/pub-g03265/pub/money.ErrCurrencyMismatch"], fn := fun _ => fun
  | [d1, d2, d3, g1] => { results := [.lit (.bool true)], args := [d1, d2, d3], vars := [g1] }
  | _ => none }
def fnNoLossRow : OpenClaim := { program := "yteejhpoddpcahaadoor", sum := "02288919af5a89009ef57e08c8e231baef1b1b3f22fd7aba3ee38a33cee730f3", func := "loop.example/pub-g03265/laws.FnNoLoss", spec := "fnNoLoss", inPlace := ["internal/abi.NoEscape", "internal/bytealg.MakeNoZero"], unfollowed := true, recurses := true, named := ["unicode/utf8.first", "unicode/utf8.acceptRanges", "unicode.CaseRanges", "loop.example/pub-g03265/pub/money.ErrCurrencyMismatch"], ifaces := true, apart := false, laid := [("unicode/utf8.acceptRanges", laid_unicode_utf8_acceptRanges), ("loop.example/pub-g03265/pub/money.ErrCurrencyMismatch", laid_loop_example_pub_g03265_pub_money_ErrCurrencyMismatch), ("unicode.CaseRanges", laid_unicode_CaseRanges), ("unicode/utf8.first", laid_unicode_utf8_first)] }
def FnNoLossSaid : Prop := fnNoLossRow.holds Tryd.pinned (OpenSpec.ofChange fnNoLossSpec)

/-- ITS FALSE NEIGHBOUR: 'it returns false'. Refute it at one input. -/
def fnNoLossWrong : ChangeSpec := { name := "fnNoLoss", vars := ["loop.example/pub-g03265/pub/money.ErrCurrencyMismatch"], fn := fun _ => fun
  | [d1, d2, d3, g1] => { results := [.lit (.bool false)], args := [d1, d2, d3], vars := [g1] }
  | _ => none }
def FnNoLossWrongFalsely : Prop := fnNoLossRow.holds Tryd.pinned (OpenSpec.ofChange fnNoLossWrong)

/-- 'laws.FnJSON': WHATEVER THE INPUT: true; the input reads as it did. -/
def fnJSONSpec : ChangeSpec := { name := "fnJSON", fn := fun _ => fun
  | [d1, d2] => { results := [.lit (.bool true)], args := [d1, d2] }
  | _ => none }
def fnJSONRow : OpenClaim := { program := "yteejhpoddpcahaadoor", sum := "02288919af5a89009ef57e08c8e231baef1b1b3f22fd7aba3ee38a33cee730f3", func := "loop.example/pub-g03265/laws.FnJSON", spec := "fnJSON", inPlace := ["internal/abi.NoEscape", "internal/bytealg.MakeNoZero"], unfollowed := true, recurses := true, named := ["unicode/utf8.first", "unicode/utf8.acceptRanges", "unicode.CaseRanges", "internal/strconv.uint64pow10", "math/bits.deBruijn32tab", "math/bits.deBruijn64tab"], apart := false, laid := [("math/bits.deBruijn32tab", laid_math_bits_deBruijn32tab), ("math/bits.deBruijn64tab", laid_math_bits_deBruijn64tab), ("internal/strconv.uint64pow10", laid_internal_strconv_uint64pow10), ("unicode/utf8.acceptRanges", laid_unicode_utf8_acceptRanges), ("unicode.CaseRanges", laid_unicode_CaseRanges), ("unicode/utf8.first", laid_unicode_utf8_first)] }
def FnJSONSaid : Prop := fnJSONRow.holds Tryd.pinned (OpenSpec.ofChange fnJSONSpec)

/-- ITS FALSE NEIGHBOUR: 'it returns false'. Refute it at one input. -/
def fnJSONWrong : ChangeSpec := { name := "fnJSON", fn := fun _ => fun
  | [d1, d2] => { results := [.lit (.bool false)], args := [d1, d2] }
  | _ => none }
def FnJSONWrongFalsely : Prop := fnJSONRow.holds Tryd.pinned (OpenSpec.ofChange fnJSONWrong)

/- THE SECOND FORM. 'bulk': how many values and letters a reading holds, each counted each time it is reached (what is shared counts as often as it is met; a slice's spare places count too). A statement '..UptoSaid' is the law's where the arguments, and the package variables that the reading takes, are together of bulk at most 1048576: NARROWER than '..Said'. Prove '..Said' where nothing that the law and all that it calls make is longer than what came in: it says more and counts as full. Else prove '..UptoSaid'. A law counts once. -/
mutual
def uptoBulk {H : Type} : DataW H → Nat
  | .lit (.string bytes) => bytes.length + 1
  | .lit _ => 1
  | .nil => 1
  | .ptr d => uptoBulk d + 1
  | .slice elems spare => uptoBulkAll elems + uptoBulkAll spare + 1
  | .agg parts => uptoBulkAll parts + 1
  | .iface _ d => uptoBulk d + 1
  | .map entries => uptoBulkEntries entries + 1
  | .held _ => 1
def uptoBulkAll {H : Type} : List (DataW H) → Nat
  | [] => 0
  | d :: r => uptoBulk d + uptoBulkAll r
def uptoBulkEntries {H : Type} : List (Lit × DataW H) → Nat
  | [] => 0
  | x :: r => uptoBulkEntry x + uptoBulkEntries r
def uptoBulkEntry {H : Type} : Lit × DataW H → Nat
  | (.string bytes, d) => bytes.length + uptoBulk d + 1
  | (_, d) => uptoBulk d + 1
 end
def uptoSmall : (H : Type) → List (DataW H) → Bool := fun _ ds => decide (uptoBulkAll ds ≤ 1048576)
def OpenSpec.upto (s : _root_.Go.ChangeSpec) : _root_.Go.OpenSpec := { _root_.Go.OpenSpec.ofChange s with cond := some uptoSmall }

/-- 'laws.FnFormat', WHERE WHAT IT READS IS OF BULK AT MOST 1048576: true; the input reads as it did. -/
def fnFormatUptoRow : OpenClaim := { program := "yteejhpoddpcahaadoor", sum := "02288919af5a89009ef57e08c8e231baef1b1b3f22fd7aba3ee38a33cee730f3", func := "loop.example/pub-g03265/laws.FnFormat", spec := "fnFormat", inPlace := ["internal/abi.NoEscape", "internal/bytealg.MakeNoZero"], unfollowed := true, recurses := true, named := ["internal/strconv.uint64pow10", "math/bits.deBruijn32tab", "math/bits.deBruijn64tab", "unicode/utf8.first", "unicode/utf8.acceptRanges", "unicode.CaseRanges", "loop.example/pub-g03265/pub/money.ErrCurrencyMismatch"], ifaces := true, apart := false, laid := [("math/bits.deBruijn32tab", laid_math_bits_deBruijn32tab), ("math/bits.deBruijn64tab", laid_math_bits_deBruijn64tab), ("internal/strconv.uint64pow10", laid_internal_strconv_uint64pow10), ("unicode/utf8.acceptRanges", laid_unicode_utf8_acceptRanges), ("loop.example/pub-g03265/pub/money.ErrCurrencyMismatch", laid_loop_example_pub_g03265_pub_money_ErrCurrencyMismatch), ("unicode.CaseRanges", laid_unicode_CaseRanges), ("unicode/utf8.first", laid_unicode_utf8_first)], narrowed := true }
def FnFormatUptoSaid : Prop := fnFormatUptoRow.holds Tryd.pinned (OpenSpec.upto fnFormatSpec)

/-- 'laws.FnDisplay', WHERE WHAT IT READS IS OF BULK AT MOST 1048576: true; the input reads as it did. -/
def fnDisplayUptoRow : OpenClaim := { program := "yteejhpoddpcahaadoor", sum := "02288919af5a89009ef57e08c8e231baef1b1b3f22fd7aba3ee38a33cee730f3", func := "loop.example/pub-g03265/laws.FnDisplay", spec := "fnDisplay", inPlace := ["internal/abi.NoEscape", "internal/bytealg.MakeNoZero"], unfollowed := true, recurses := true, named := ["unicode/utf8.first", "unicode/utf8.acceptRanges", "unicode.CaseRanges", "internal/strconv.uint64pow10", "math/bits.deBruijn32tab", "math/bits.deBruijn64tab", "loop.example/pub-g03265/pub/money.ErrCurrencyMismatch"], ifaces := true, apart := false, laid := [("math/bits.deBruijn32tab", laid_math_bits_deBruijn32tab), ("math/bits.deBruijn64tab", laid_math_bits_deBruijn64tab), ("internal/strconv.uint64pow10", laid_internal_strconv_uint64pow10), ("unicode/utf8.acceptRanges", laid_unicode_utf8_acceptRanges), ("loop.example/pub-g03265/pub/money.ErrCurrencyMismatch", laid_loop_example_pub_g03265_pub_money_ErrCurrencyMismatch), ("unicode.CaseRanges", laid_unicode_CaseRanges), ("unicode/utf8.first", laid_unicode_utf8_first)], narrowed := true }
def FnDisplayUptoSaid : Prop := fnDisplayUptoRow.holds Tryd.pinned (OpenSpec.upto fnDisplaySpec)

/-- 'laws.FnSplit', WHERE WHAT IT READS IS OF BULK AT MOST 1048576: true; the input reads as it did. -/
def fnSplitUptoRow : OpenClaim := { program := "yteejhpoddpcahaadoor", sum := "02288919af5a89009ef57e08c8e231baef1b1b3f22fd7aba3ee38a33cee730f3", func := "loop.example/pub-g03265/laws.FnSplit", spec := "fnSplit", inPlace := ["internal/abi.NoEscape", "internal/bytealg.MakeNoZero"], unfollowed := true, recurses := true, named := ["unicode/utf8.first", "unicode/utf8.acceptRanges", "unicode.CaseRanges", "loop.example/pub-g03265/pub/money.ErrCurrencyMismatch"], ifaces := true, apart := false, laid := [("unicode/utf8.acceptRanges", laid_unicode_utf8_acceptRanges), ("loop.example/pub-g03265/pub/money.ErrCurrencyMismatch", laid_loop_example_pub_g03265_pub_money_ErrCurrencyMismatch), ("unicode.CaseRanges", laid_unicode_CaseRanges), ("unicode/utf8.first", laid_unicode_utf8_first)], narrowed := true }
def FnSplitUptoSaid : Prop := fnSplitUptoRow.holds Tryd.pinned (OpenSpec.upto fnSplitSpec)

/-- 'laws.FnAllocate', WHERE WHAT IT READS IS OF BULK AT MOST 1048576: true; the input reads as it did. -/
def fnAllocateUptoRow : OpenClaim := { program := "yteejhpoddpcahaadoor", sum := "02288919af5a89009ef57e08c8e231baef1b1b3f22fd7aba3ee38a33cee730f3", func := "loop.example/pub-g03265/laws.FnAllocate", spec := "fnAllocate", inPlace := ["internal/abi.NoEscape", "internal/bytealg.MakeNoZero"], unfollowed := true, recurses := true, named := ["unicode/utf8.first", "unicode/utf8.acceptRanges", "unicode.CaseRanges", "loop.example/pub-g03265/pub/money.ErrCurrencyMismatch"], ifaces := true, apart := false, laid := [("unicode/utf8.acceptRanges", laid_unicode_utf8_acceptRanges), ("loop.example/pub-g03265/pub/money.ErrCurrencyMismatch", laid_loop_example_pub_g03265_pub_money_ErrCurrencyMismatch), ("unicode.CaseRanges", laid_unicode_CaseRanges), ("unicode/utf8.first", laid_unicode_utf8_first)], narrowed := true }
def FnAllocateUptoSaid : Prop := fnAllocateUptoRow.holds Tryd.pinned (OpenSpec.upto fnAllocateSpec)

/-- 'laws.FnRatios', WHERE WHAT IT READS IS OF BULK AT MOST 1048576: true; the input reads as it did. -/
def fnRatiosUptoRow : OpenClaim := { program := "yteejhpoddpcahaadoor", sum := "02288919af5a89009ef57e08c8e231baef1b1b3f22fd7aba3ee38a33cee730f3", func := "loop.example/pub-g03265/laws.FnRatios", spec := "fnRatios", inPlace := ["internal/abi.NoEscape", "internal/bytealg.MakeNoZero"], unfollowed := true, recurses := true, named := ["unicode/utf8.first", "unicode/utf8.acceptRanges", "unicode.CaseRanges", "loop.example/pub-g03265/pub/money.ErrCurrencyMismatch"], ifaces := true, apart := false, laid := [("unicode/utf8.acceptRanges", laid_unicode_utf8_acceptRanges), ("loop.example/pub-g03265/pub/money.ErrCurrencyMismatch", laid_loop_example_pub_g03265_pub_money_ErrCurrencyMismatch), ("unicode.CaseRanges", laid_unicode_CaseRanges), ("unicode/utf8.first", laid_unicode_utf8_first)], narrowed := true }
def FnRatiosUptoSaid : Prop := fnRatiosUptoRow.holds Tryd.pinned (OpenSpec.upto fnRatiosSpec)

/-- 'laws.FnEven', WHERE WHAT IT READS IS OF BULK AT MOST 1048576: true; the input reads as it did. -/
def fnEvenUptoRow : OpenClaim := { program := "yteejhpoddpcahaadoor", sum := "02288919af5a89009ef57e08c8e231baef1b1b3f22fd7aba3ee38a33cee730f3", func := "loop.example/pub-g03265/laws.FnEven", spec := "fnEven", inPlace := ["internal/abi.NoEscape", "internal/bytealg.MakeNoZero"], unfollowed := true, recurses := true, named := ["unicode/utf8.first", "unicode/utf8.acceptRanges", "unicode.CaseRanges", "loop.example/pub-g03265/pub/money.ErrCurrencyMismatch"], ifaces := true, apart := false, laid := [("unicode/utf8.acceptRanges", laid_unicode_utf8_acceptRanges), ("loop.example/pub-g03265/pub/money.ErrCurrencyMismatch", laid_loop_example_pub_g03265_pub_money_ErrCurrencyMismatch), ("unicode.CaseRanges", laid_unicode_CaseRanges), ("unicode/utf8.first", laid_unicode_utf8_first)], narrowed := true }
def FnEvenUptoSaid : Prop := fnEvenUptoRow.holds Tryd.pinned (OpenSpec.upto fnEvenSpec)

/-- 'laws.FnNoLoss', WHERE WHAT IT READS IS OF BULK AT MOST 1048576: true; the input reads as it did. -/
def fnNoLossUptoRow : OpenClaim := { program := "yteejhpoddpcahaadoor", sum := "02288919af5a89009ef57e08c8e231baef1b1b3f22fd7aba3ee38a33cee730f3", func := "loop.example/pub-g03265/laws.FnNoLoss", spec := "fnNoLoss", inPlace := ["internal/abi.NoEscape", "internal/bytealg.MakeNoZero"], unfollowed := true, recurses := true, named := ["unicode/utf8.first", "unicode/utf8.acceptRanges", "unicode.CaseRanges", "loop.example/pub-g03265/pub/money.ErrCurrencyMismatch"], ifaces := true, apart := false, laid := [("unicode/utf8.acceptRanges", laid_unicode_utf8_acceptRanges), ("loop.example/pub-g03265/pub/money.ErrCurrencyMismatch", laid_loop_example_pub_g03265_pub_money_ErrCurrencyMismatch), ("unicode.CaseRanges", laid_unicode_CaseRanges), ("unicode/utf8.first", laid_unicode_utf8_first)], narrowed := true }
def FnNoLossUptoSaid : Prop := fnNoLossUptoRow.holds Tryd.pinned (OpenSpec.upto fnNoLossSpec)

/-- 'laws.FnJSON', WHERE WHAT IT READS IS OF BULK AT MOST 1048576: true; the input reads as it did. -/
def fnJSONUptoRow : OpenClaim := { program := "yteejhpoddpcahaadoor", sum := "02288919af5a89009ef57e08c8e231baef1b1b3f22fd7aba3ee38a33cee730f3", func := "loop.example/pub-g03265/laws.FnJSON", spec := "fnJSON", inPlace := ["internal/abi.NoEscape", "internal/bytealg.MakeNoZero"], unfollowed := true, recurses := true, named := ["unicode/utf8.first", "unicode/utf8.acceptRanges", "unicode.CaseRanges", "internal/strconv.uint64pow10", "math/bits.deBruijn32tab", "math/bits.deBruijn64tab"], apart := false, laid := [("math/bits.deBruijn32tab", laid_math_bits_deBruijn32tab), ("math/bits.deBruijn64tab", laid_math_bits_deBruijn64tab), ("internal/strconv.uint64pow10", laid_internal_strconv_uint64pow10), ("unicode/utf8.acceptRanges", laid_unicode_utf8_acceptRanges), ("unicode.CaseRanges", laid_unicode_CaseRanges), ("unicode/utf8.first", laid_unicode_utf8_first)], narrowed := true }
def FnJSONUptoSaid : Prop := fnJSONUptoRow.holds Tryd.pinned (OpenSpec.upto fnJSONSpec)

end Rows
end Go.Proofs.YteejhpoddpcahaaDoor
