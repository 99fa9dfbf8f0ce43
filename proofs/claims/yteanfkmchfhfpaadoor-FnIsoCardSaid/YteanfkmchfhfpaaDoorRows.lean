/-
  NARROWER THAN 'FOR EVERY INPUT', by the rows' own cells (each row's printed sentence says how): FnIso: laid · FnAdd: ifaces, laid · FnAbsolute: ifaces, laid · FnNegative: ifaces, laid · FnCurrency: ifaces, laid · FnMultiply: ifaces, laid · FnOrder: ifaces, laid · FnOf: ifaces, laid · FnSubtract: ifaces, laid · FnCompare: ifaces, laid.
  DERIVED. THE GIVEN ROWS OF THIS SEAT. 10 by the template 'for every input the law returns true; each argument reads behind the call as it read before'; 0 by the template 'total and deterministic' (their statements: YteanfkmchfhfpaaDoorTotals.lean).
  GIVEN WITH THE SEED: the statements are not yours to turn. If you find one false, say at which input.
  Laid BY PROGRAM, IN A SANDBOX (cutbox-rows.mjs): the forced cells as the released guide's own fill.sh prints them over the translation 77b7e2b9127b59d5… (all of the seat's roots in one cut). By AI agents, Wed Nov 11 2026. No macro, syntax, notation, axiom, sorry.
-/
import Derived.Test.YteanfkmchfhfpaaDoorChecked
import GoSem.PinnedTables
import GoSem.Claim
import GoSem.ClaimJoined
import GoSem.ClaimMapViews
import Derived.JoinedTies
import Derived.KernelRfl
namespace Go.Proofs.YteanfkmchfhfpaaDoor
/- THE CELL 'sum', in the pinned program and in every row, IS THE sha256 OF THE DUMP (.gsa) THAT YteanfkmchfhfpaaDoorProg.lean LOADS. Nothing in Lean hashes anything: it is a label: what it is worth is what the hold of that sum in a sandbox is worth. -/
noncomputable def Tryd.pinned : Pinned := { name := "yteanfkmchfhfpaadoor", sum := "77b7e2b9127b59d5b0e96af1a8c95a9f6ff5917ababf09ceee91b2c728fe0b3e", checked := Tryd.checked }
namespace Rows
def none {H : Type} : Left H := { results := [], args := [] }

/- WHAT THE LISTED PACKAGE-LEVEL VARIABLES READ AS WHEN THE CALL BEGINS. Each datum BY PROGRAM (the guide's laid-datum.mjs) off the statement by which the dump's own 'gosem.cut.vars' lays the variable. In a bare row this is a premise. The card (YteanfkmchfhfpaaDoorCards.lean) ties it to the program's text. -/
def laid_unicode_utf8_acceptRanges {H : Type} : DataW H := .agg [.agg [.lit (.int .u8 128), .lit (.int .u8 191)], .agg [.lit (.int .u8 160), .lit (.int .u8 191)], .agg [.lit (.int .u8 128), .lit (.int .u8 159)], .agg [.lit (.int .u8 144), .lit (.int .u8 191)], .agg [.lit (.int .u8 128), .lit (.int .u8 143)], .agg [.lit (.int .u8 0), .lit (.int .u8 0)], .agg [.lit (.int .u8 0), .lit (.int .u8 0)], .agg [.lit (.int .u8 0), .lit (.int .u8 0)], .agg [.lit (.int .u8 0), .lit (.int .u8 0)], .agg [.lit (.int .u8 0), .lit (.int .u8 0)], .agg [.lit (.int .u8 0), .lit (.int .u8 0)], .agg [.lit (.int .u8 0), .lit (.int .u8 0)], .agg [.lit (.int .u8 0), .lit (.int .u8 0)], .agg [.lit (.int .u8 0), .lit (.int .u8 0)], .agg [.lit (.int .u8 0), .lit (.int .u8 0)], .agg [.lit (.int .u8 0), .lit (.int .u8 0)]]
/-- One of Go's own tables, pinned by name: the form's constant. -/
def laid_unicode_CaseRanges : DataW Unit := Go.Pinned.caseRanges
/-- One of Go's own tables, pinned by name: the form's constant. -/
def laid_unicode_utf8_first : DataW Unit := Go.Pinned.utf8First
def laid_loop_example_pub_g03265_pub_money_ErrCurrencyMismatch {H : Type} : DataW H := .iface "*errors.errorString" (.ptr (.agg [.lit (.string [99, 117, 114, 114, 101, 110, 99, 105, 101, 115, 32, 100, 111, 110, 39, 116, 32, 109, 97, 116, 99, 104])]))

/-- 'laws.FnIso': WHATEVER THE INPUT: true; the input reads as it did. -/
def fnIsoSpec : ChangeSpec := { name := "fnIso", fn := fun _ => fun
  | [d] => { results := [.lit (.bool true)], args := [d] }
  | _ => none }
def fnIsoRow : OpenClaim := { program := "yteanfkmchfhfpaadoor", sum := "77b7e2b9127b59d5b0e96af1a8c95a9f6ff5917ababf09ceee91b2c728fe0b3e", func := "loop.example/pub-g03265/laws.FnIso", spec := "fnIso", inPlace := ["internal/abi.NoEscape", "internal/bytealg.MakeNoZero"], unfollowed := true, recurses := true, named := ["unicode/utf8.first", "unicode/utf8.acceptRanges", "unicode.CaseRanges"], apart := false, laid := [("unicode/utf8.acceptRanges", laid_unicode_utf8_acceptRanges), ("unicode.CaseRanges", laid_unicode_CaseRanges), ("unicode/utf8.first", laid_unicode_utf8_first)] }
def FnIsoSaid : Prop := fnIsoRow.holds Tryd.pinned (OpenSpec.ofChange fnIsoSpec)

/-- ITS FALSE NEIGHBOUR: 'it returns false'. Refute it at one input. -/
def fnIsoWrong : ChangeSpec := { name := "fnIso", fn := fun _ => fun
  | [d] => { results := [.lit (.bool false)], args := [d] }
  | _ => none }
def FnIsoWrongFalsely : Prop := fnIsoRow.holds Tryd.pinned (OpenSpec.ofChange fnIsoWrong)

/-- 'laws.FnAdd': WHATEVER THE INPUT: true; the input reads as it did. -/
def fnAddSpec : ChangeSpec := { name := "fnAdd", vars := ["loop.example/pub-g03265/pub/money.ErrCurrencyMismatch"], fn := fun _ => fun
  | [d1, d2, g1] => { results := [.lit (.bool true)], args := [d1, d2], vars := [g1] }
  | _ => none }
def fnAddRow : OpenClaim := { program := "yteanfkmchfhfpaadoor", sum := "77b7e2b9127b59d5b0e96af1a8c95a9f6ff5917ababf09ceee91b2c728fe0b3e", func := "loop.example/pub-g03265/laws.FnAdd", spec := "fnAdd", inPlace := ["internal/abi.NoEscape", "internal/bytealg.MakeNoZero"], unfollowed := true, recurses := true, named := ["unicode/utf8.first", "unicode/utf8.acceptRanges", "unicode.CaseRanges", "loop.example/pub-g03265/pub/money.ErrCurrencyMismatch"], ifaces := true, apart := false, laid := [("unicode/utf8.acceptRanges", laid_unicode_utf8_acceptRanges), ("loop.example/pub-g03265/pub/money.ErrCurrencyMismatch", laid_loop_example_pub_g03265_pub_money_ErrCurrencyMismatch), ("unicode.CaseRanges", laid_unicode_CaseRanges), ("unicode/utf8.first", laid_unicode_utf8_first)] }
def FnAddSaid : Prop := fnAddRow.holds Tryd.pinned (OpenSpec.ofChange fnAddSpec)

/-- ITS FALSE NEIGHBOUR: 'it returns false'. Refute it at one input. -/
def fnAddWrong : ChangeSpec := { name := "fnAdd", vars := ["loop.example/pub-g03265/pub/money.ErrCurrencyMismatch"], fn := fun _ => fun
  | [d1, d2, g1] => { results := [.lit (.bool false)], args := [d1, d2], vars := [g1] }
  | _ => none }
def FnAddWrongFalsely : Prop := fnAddRow.holds Tryd.pinned (OpenSpec.ofChange fnAddWrong)

/-- 'laws.FnAbsolute': WHATEVER THE INPUT: true; the input reads as it did. -/
def fnAbsoluteSpec : ChangeSpec := { name := "fnAbsolute", vars := ["loop.example/pub-g03265/pub/money.ErrCurrencyMismatch"], fn := fun _ => fun
  | [d1, d2, g1] => { results := [.lit (.bool true)], args := [d1, d2], vars := [g1] }
  | _ => none }
def fnAbsoluteRow : OpenClaim := { program := "yteanfkmchfhfpaadoor", sum := "77b7e2b9127b59d5b0e96af1a8c95a9f6ff5917ababf09ceee91b2c728fe0b3e", func := "loop.example/pub-g03265/laws.FnAbsolute", spec := "fnAbsolute", inPlace := ["internal/abi.NoEscape", "internal/bytealg.MakeNoZero"], unfollowed := true, recurses := true, named := ["unicode/utf8.first", "unicode/utf8.acceptRanges", "unicode.CaseRanges", "loop.example/pub-g03265/pub/money.ErrCurrencyMismatch"], ifaces := true, apart := false, laid := [("unicode/utf8.acceptRanges", laid_unicode_utf8_acceptRanges), ("loop.example/pub-g03265/pub/money.ErrCurrencyMismatch", laid_loop_example_pub_g03265_pub_money_ErrCurrencyMismatch), ("unicode.CaseRanges", laid_unicode_CaseRanges), ("unicode/utf8.first", laid_unicode_utf8_first)] }
def FnAbsoluteSaid : Prop := fnAbsoluteRow.holds Tryd.pinned (OpenSpec.ofChange fnAbsoluteSpec)

/-- ITS FALSE NEIGHBOUR: 'it returns false'. Refute it at one input. -/
def fnAbsoluteWrong : ChangeSpec := { name := "fnAbsolute", vars := ["loop.example/pub-g03265/pub/money.ErrCurrencyMismatch"], fn := fun _ => fun
  | [d1, d2, g1] => { results := [.lit (.bool false)], args := [d1, d2], vars := [g1] }
  | _ => none }
def FnAbsoluteWrongFalsely : Prop := fnAbsoluteRow.holds Tryd.pinned (OpenSpec.ofChange fnAbsoluteWrong)

/-- 'laws.FnNegative': WHATEVER THE INPUT: true; the input reads as it did. -/
def fnNegativeSpec : ChangeSpec := { name := "fnNegative", vars := ["loop.example/pub-g03265/pub/money.ErrCurrencyMismatch"], fn := fun _ => fun
  | [d1, d2, g1] => { results := [.lit (.bool true)], args := [d1, d2], vars := [g1] }
  | _ => none }
def fnNegativeRow : OpenClaim := { program := "yteanfkmchfhfpaadoor", sum := "77b7e2b9127b59d5b0e96af1a8c95a9f6ff5917ababf09ceee91b2c728fe0b3e", func := "loop.example/pub-g03265/laws.FnNegative", spec := "fnNegative", inPlace := ["internal/abi.NoEscape", "internal/bytealg.MakeNoZero"], unfollowed := true, recurses := true, named := ["unicode/utf8.first", "unicode/utf8.acceptRanges", "unicode.CaseRanges", "loop.example/pub-g03265/pub/money.ErrCurrencyMismatch"], ifaces := true, apart := false, laid := [("unicode/utf8.acceptRanges", laid_unicode_utf8_acceptRanges), ("loop.example/pub-g03265/pub/money.ErrCurrencyMismatch", laid_loop_example_pub_g03265_pub_money_ErrCurrencyMismatch), ("unicode.CaseRanges", laid_unicode_CaseRanges), ("unicode/utf8.first", laid_unicode_utf8_first)] }
def FnNegativeSaid : Prop := fnNegativeRow.holds Tryd.pinned (OpenSpec.ofChange fnNegativeSpec)

/-- ITS FALSE NEIGHBOUR: 'it returns false'. Refute it at one input. -/
def fnNegativeWrong : ChangeSpec := { name := "fnNegative", vars := ["loop.example/pub-g03265/pub/money.ErrCurrencyMismatch"], fn := fun _ => fun
  | [d1, d2, g1] => { results := [.lit (.bool false)], args := [d1, d2], vars := [g1] }
  | _ => none }
def FnNegativeWrongFalsely : Prop := fnNegativeRow.holds Tryd.pinned (OpenSpec.ofChange fnNegativeWrong)

/-- 'laws.FnCurrency': WHATEVER THE INPUT: true; the input reads as it did. -/
def fnCurrencySpec : ChangeSpec := { name := "fnCurrency", vars := ["loop.example/pub-g03265/pub/money.ErrCurrencyMismatch"], fn := fun _ => fun
  | [d, g1] => { results := [.lit (.bool true)], args := [d], vars := [g1] }
  | _ => none }
def fnCurrencyRow : OpenClaim := { program := "yteanfkmchfhfpaadoor", sum := "77b7e2b9127b59d5b0e96af1a8c95a9f6ff5917ababf09ceee91b2c728fe0b3e", func := "loop.example/pub-g03265/laws.FnCurrency", spec := "fnCurrency", inPlace := ["internal/abi.NoEscape", "internal/bytealg.MakeNoZero"], unfollowed := true, recurses := true, named := ["unicode/utf8.first", "unicode/utf8.acceptRanges", "unicode.CaseRanges", "loop.example/pub-g03265/pub/money.ErrCurrencyMismatch"], ifaces := true, apart := false, laid := [("unicode/utf8.acceptRanges", laid_unicode_utf8_acceptRanges), ("loop.example/pub-g03265/pub/money.ErrCurrencyMismatch", laid_loop_example_pub_g03265_pub_money_ErrCurrencyMismatch), ("unicode.CaseRanges", laid_unicode_CaseRanges), ("unicode/utf8.first", laid_unicode_utf8_first)] }
def FnCurrencySaid : Prop := fnCurrencyRow.holds Tryd.pinned (OpenSpec.ofChange fnCurrencySpec)

/-- ITS FALSE NEIGHBOUR: 'it returns false'. Refute it at one input. -/
def fnCurrencyWrong : ChangeSpec := { name := "fnCurrency", vars := ["loop.example/pub-g03265/pub/money.ErrCurrencyMismatch"], fn := fun _ => fun
  | [d, g1] => { results := [.lit (.bool false)], args := [d], vars := [g1] }
  | _ => none }
def FnCurrencyWrongFalsely : Prop := fnCurrencyRow.holds Tryd.pinned (OpenSpec.ofChange fnCurrencyWrong)

/-- 'laws.FnMultiply': WHATEVER THE INPUT: true; the input reads as it did. -/
def fnMultiplySpec : ChangeSpec := { name := "fnMultiply", vars := ["loop.example/pub-g03265/pub/money.ErrCurrencyMismatch"], fn := fun _ => fun
  | [d1, d2, d3, g1] => { results := [.lit (.bool true)], args := [d1, d2, d3], vars := [g1] }
  | _ => none }
def fnMultiplyRow : OpenClaim := { program := "yteanfkmchfhfpaadoor", sum := "77b7e2b9127b59d5b0e96af1a8c95a9f6ff5917ababf09ceee91b2c728fe0b3e", func := "loop.example/pub-g03265/laws.FnMultiply", spec := "fnMultiply", inPlace := ["internal/abi.NoEscape", "internal/bytealg.MakeNoZero"], unfollowed := true, recurses := true, named := ["unicode/utf8.first", "unicode/utf8.acceptRanges", "unicode.CaseRanges", "loop.example/pub-g03265/pub/money.ErrCurrencyMismatch"], ifaces := true, apart := false, laid := [("unicode/utf8.acceptRanges", laid_unicode_utf8_acceptRanges), ("loop.example/pub-g03265/pub/money.ErrCurrencyMismatch", laid_loop_example_pub_g03265_pub_money_ErrCurrencyMismatch), ("unicode.CaseRanges", laid_unicode_CaseRanges), ("unicode/utf8.first", laid_unicode_utf8_first)] }
def FnMultiplySaid : Prop := fnMultiplyRow.holds Tryd.pinned (OpenSpec.ofChange fnMultiplySpec)

/-- ITS FALSE NEIGHBOUR: 'it returns false'. Refute it at one input. -/
def fnMultiplyWrong : ChangeSpec := { name := "fnMultiply", vars := ["loop.example/pub-g03265/pub/money.ErrCurrencyMismatch"], fn := fun _ => fun
  | [d1, d2, d3, g1] => { results := [.lit (.bool false)], args := [d1, d2, d3], vars := [g1] }
  | _ => none }
def FnMultiplyWrongFalsely : Prop := fnMultiplyRow.holds Tryd.pinned (OpenSpec.ofChange fnMultiplyWrong)

/-- 'laws.FnOrder': WHATEVER THE INPUT: true; the input reads as it did. -/
def fnOrderSpec : ChangeSpec := { name := "fnOrder", vars := ["loop.example/pub-g03265/pub/money.ErrCurrencyMismatch"], fn := fun _ => fun
  | [d1, d2, d3, d4, g1] => { results := [.lit (.bool true)], args := [d1, d2, d3, d4], vars := [g1] }
  | _ => none }
def fnOrderRow : OpenClaim := { program := "yteanfkmchfhfpaadoor", sum := "77b7e2b9127b59d5b0e96af1a8c95a9f6ff5917ababf09ceee91b2c728fe0b3e", func := "loop.example/pub-g03265/laws.FnOrder", spec := "fnOrder", inPlace := ["internal/abi.NoEscape", "internal/bytealg.MakeNoZero"], unfollowed := true, recurses := true, named := ["unicode/utf8.first", "unicode/utf8.acceptRanges", "unicode.CaseRanges", "loop.example/pub-g03265/pub/money.ErrCurrencyMismatch"], ifaces := true, apart := false, laid := [("unicode/utf8.acceptRanges", laid_unicode_utf8_acceptRanges), ("loop.example/pub-g03265/pub/money.ErrCurrencyMismatch", laid_loop_example_pub_g03265_pub_money_ErrCurrencyMismatch), ("unicode.CaseRanges", laid_unicode_CaseRanges), ("unicode/utf8.first", laid_unicode_utf8_first)] }
def FnOrderSaid : Prop := fnOrderRow.holds Tryd.pinned (OpenSpec.ofChange fnOrderSpec)

/-- ITS FALSE NEIGHBOUR: 'it returns false'. Refute it at one input. -/
def fnOrderWrong : ChangeSpec := { name := "fnOrder", vars := ["loop.example/pub-g03265/pub/money.ErrCurrencyMismatch"], fn := fun _ => fun
  | [d1, d2, d3, d4, g1] => { results := [.lit (.bool false)], args := [d1, d2, d3, d4], vars := [g1] }
  | _ => none }
def FnOrderWrongFalsely : Prop := fnOrderRow.holds Tryd.pinned (OpenSpec.ofChange fnOrderWrong)

/-- 'laws.FnOf': WHATEVER THE INPUT: true; the input reads as it did. -/
def fnOfSpec : ChangeSpec := { name := "fnOf", vars := ["loop.example/pub-g03265/pub/money.ErrCurrencyMismatch"], fn := fun _ => fun
  | [d, g1] => { results := [.lit (.bool true)], args := [d], vars := [g1] }
  | _ => none }
def fnOfRow : OpenClaim := { program := "yteanfkmchfhfpaadoor", sum := "77b7e2b9127b59d5b0e96af1a8c95a9f6ff5917ababf09ceee91b2c728fe0b3e", func := "loop.example/pub-g03265/laws.FnOf", spec := "fnOf", inPlace := ["internal/abi.NoEscape", "internal/bytealg.MakeNoZero"], unfollowed := true, recurses := true, named := ["unicode/utf8.first", "unicode/utf8.acceptRanges", "unicode.CaseRanges", "loop.example/pub-g03265/pub/money.ErrCurrencyMismatch"], ifaces := true, apart := false, laid := [("unicode/utf8.acceptRanges", laid_unicode_utf8_acceptRanges), ("loop.example/pub-g03265/pub/money.ErrCurrencyMismatch", laid_loop_example_pub_g03265_pub_money_ErrCurrencyMismatch), ("unicode.CaseRanges", laid_unicode_CaseRanges), ("unicode/utf8.first", laid_unicode_utf8_first)] }
def FnOfSaid : Prop := fnOfRow.holds Tryd.pinned (OpenSpec.ofChange fnOfSpec)

/-- ITS FALSE NEIGHBOUR: 'it returns false'. Refute it at one input. -/
def fnOfWrong : ChangeSpec := { name := "fnOf", vars := ["loop.example/pub-g03265/pub/money.ErrCurrencyMismatch"], fn := fun _ => fun
  | [d, g1] => { results := [.lit (.bool false)], args := [d], vars := [g1] }
  | _ => none }
def FnOfWrongFalsely : Prop := fnOfRow.holds Tryd.pinned (OpenSpec.ofChange fnOfWrong)

/-- 'laws.FnSubtract': WHATEVER THE INPUT: true; the input reads as it did. -/
def fnSubtractSpec : ChangeSpec := { name := "fnSubtract", vars := ["loop.example/pub-g03265/pub/money.ErrCurrencyMismatch"], fn := fun _ => fun
  | [d1, d2, g1] => { results := [.lit (.bool true)], args := [d1, d2], vars := [g1] }
  | _ => none }
def fnSubtractRow : OpenClaim := { program := "yteanfkmchfhfpaadoor", sum := "77b7e2b9127b59d5b0e96af1a8c95a9f6ff5917ababf09ceee91b2c728fe0b3e", func := "loop.example/pub-g03265/laws.FnSubtract", spec := "fnSubtract", inPlace := ["internal/abi.NoEscape", "internal/bytealg.MakeNoZero"], unfollowed := true, recurses := true, named := ["unicode/utf8.first", "unicode/utf8.acceptRanges", "unicode.CaseRanges", "loop.example/pub-g03265/pub/money.ErrCurrencyMismatch"], ifaces := true, apart := false, laid := [("unicode/utf8.acceptRanges", laid_unicode_utf8_acceptRanges), ("loop.example/pub-g03265/pub/money.ErrCurrencyMismatch", laid_loop_example_pub_g03265_pub_money_ErrCurrencyMismatch), ("unicode.CaseRanges", laid_unicode_CaseRanges), ("unicode/utf8.first", laid_unicode_utf8_first)] }
def FnSubtractSaid : Prop := fnSubtractRow.holds Tryd.pinned (OpenSpec.ofChange fnSubtractSpec)

/-- ITS FALSE NEIGHBOUR: 'it returns false'. Refute it at one input. -/
def fnSubtractWrong : ChangeSpec := { name := "fnSubtract", vars := ["loop.example/pub-g03265/pub/money.ErrCurrencyMismatch"], fn := fun _ => fun
  | [d1, d2, g1] => { results := [.lit (.bool false)], args := [d1, d2], vars := [g1] }
  | _ => none }
def FnSubtractWrongFalsely : Prop := fnSubtractRow.holds Tryd.pinned (OpenSpec.ofChange fnSubtractWrong)

/-- 'laws.FnCompare': WHATEVER THE INPUT: true; the input reads as it did. -/
def fnCompareSpec : ChangeSpec := { name := "fnCompare", vars := ["loop.example/pub-g03265/pub/money.ErrCurrencyMismatch"], fn := fun _ => fun
  | [d1, d2, d3, d4, d5, g1] => { results := [.lit (.bool true)], args := [d1, d2, d3, d4, d5], vars := [g1] }
  | _ => none }
def fnCompareRow : OpenClaim := { program := "yteanfkmchfhfpaadoor", sum := "77b7e2b9127b59d5b0e96af1a8c95a9f6ff5917ababf09ceee91b2c728fe0b3e", func := "loop.example/pub-g03265/laws.FnCompare", spec := "fnCompare", inPlace := ["internal/abi.NoEscape", "internal/bytealg.MakeNoZero"], unfollowed := true, recurses := true, named := ["loop.example/pub-g03265/pub/money.ErrCurrencyMismatch", "unicode/utf8.first", "unicode/utf8.acceptRanges", "unicode.CaseRanges"], ifaces := true, apart := false, laid := [("unicode/utf8.acceptRanges", laid_unicode_utf8_acceptRanges), ("loop.example/pub-g03265/pub/money.ErrCurrencyMismatch", laid_loop_example_pub_g03265_pub_money_ErrCurrencyMismatch), ("unicode.CaseRanges", laid_unicode_CaseRanges), ("unicode/utf8.first", laid_unicode_utf8_first)] }
def FnCompareSaid : Prop := fnCompareRow.holds Tryd.pinned (OpenSpec.ofChange fnCompareSpec)

/-- ITS FALSE NEIGHBOUR: 'it returns false'. Refute it at one input. -/
def fnCompareWrong : ChangeSpec := { name := "fnCompare", vars := ["loop.example/pub-g03265/pub/money.ErrCurrencyMismatch"], fn := fun _ => fun
  | [d1, d2, d3, d4, d5, g1] => { results := [.lit (.bool false)], args := [d1, d2, d3, d4, d5], vars := [g1] }
  | _ => none }
def FnCompareWrongFalsely : Prop := fnCompareRow.holds Tryd.pinned (OpenSpec.ofChange fnCompareWrong)

/- THE SECOND FORM. 'bulk': how many values and letters a reading holds, each counted each time it is reached (what is shared counts as often as it is met; a slice's spare places count too). A statement '..UptoSaid' is the law's where the arguments, and the package variables that the reading takes, are together of bulk at most 1048576: NARROWER than '..Said'. Prove '..Said' where nothing that the law and all that it calls make is longer than what came in: it says more and counts as full. Else prove '..UptoSaid'. A law counts once. -/
mutual
def uptoBulk {H : Type} : DataW H → Nat
  | .lit (.string bytes) => bytes.length + 1
  | .lit _ => 1
  | .nil => 1
  | .ptr d => uptoBulk d + 1
  | .slice elems spare => uptoBulkAll elems + uptoBulkAll spare + 1
  | .agg parts => uptoBulkAll parts + 1
  | .iface _ d => uptoBulk d + 1
  | .map entries => uptoBulkEntries entries + 1
  | .held _ => 1
def uptoBulkAll {H : Type} : List (DataW H) → Nat
  | [] => 0
  | d :: r => uptoBulk d + uptoBulkAll r
def uptoBulkEntries {H : Type} : List (Lit × DataW H) → Nat
  | [] => 0
  | x :: r => uptoBulkEntry x + uptoBulkEntries r
def uptoBulkEntry {H : Type} : Lit × DataW H → Nat
  | (.string bytes, d) => bytes.length + uptoBulk d + 1
  | (_, d) => uptoBulk d + 1
 end
def uptoSmall : (H : Type) → List (DataW H) → Bool := fun _ ds => decide (uptoBulkAll ds ≤ 1048576)
def OpenSpec.upto (s : _root_.Go.ChangeSpec) : _root_.Go.OpenSpec := { _root_.Go.OpenSpec.ofChange s with cond := some uptoSmall }

/-- 'laws.FnIso', WHERE WHAT IT READS IS OF BULK AT MOST 1048576: true; the input reads as it did. -/
def fnIsoUptoRow : OpenClaim := { program := "yteanfkmchfhfpaadoor", sum := "77b7e2b9127b59d5b0e96af1a8c95a9f6ff5917ababf09ceee91b2c728fe0b3e", func := "loop.example/pub-g03265/laws.FnIso", spec := "fnIso", inPlace := ["internal/abi.NoEscape", "internal/bytealg.MakeNoZero"], unfollowed := true, recurses := true, named := ["unicode/utf8.first", "unicode/utf8.acceptRanges", "unicode.CaseRanges"], apart := false, laid := [("unicode/utf8.acceptRanges", laid_unicode_utf8_acceptRanges), ("unicode.CaseRanges", laid_unicode_CaseRanges), ("unicode/utf8.first", laid_unicode_utf8_first)], narrowed := true }
def FnIsoUptoSaid : Prop := fnIsoUptoRow.holds Tryd.pinned (OpenSpec.upto fnIsoSpec)

/-- 'laws.FnAdd', WHERE WHAT IT READS IS OF BULK AT MOST 1048576: true; the input reads as it did. -/
def fnAddUptoRow : OpenClaim := { program := "yteanfkmchfhfpaadoor", sum := "77b7e2b9127b59d5b0e96af1a8c95a9f6ff5917ababf09ceee91b2c728fe0b3e", func := "loop.example/pub-g03265/laws.FnAdd", spec := "fnAdd", inPlace := ["internal/abi.NoEscape", "internal/bytealg.MakeNoZero"], unfollowed := true, recurses := true, named := ["unicode/utf8.first", "unicode/utf8.acceptRanges", "unicode.CaseRanges", "loop.example/pub-g03265/pub/money.ErrCurrencyMismatch"], ifaces := true, apart := false, laid := [("unicode/utf8.acceptRanges", laid_unicode_utf8_acceptRanges), ("loop.example/pub-g03265/pub/money.ErrCurrencyMismatch", laid_loop_example_pub_g03265_pub_money_ErrCurrencyMismatch), ("unicode.CaseRanges", laid_unicode_CaseRanges), ("unicode/utf8.first", laid_unicode_utf8_first)], narrowed := true }
def FnAddUptoSaid : Prop := fnAddUptoRow.holds Tryd.pinned (OpenSpec.upto fnAddSpec)

/-- 'laws.FnAbsolute', WHERE WHAT IT READS IS OF BULK AT MOST 1048576: true; the input reads as it did. -/
def fnAbsoluteUptoRow : OpenClaim := { program := "yteanfkmchfhfpaadoor", sum := "77b7e2b9127b59d5b0e96af1a8c95a9f6ff5917ababf09ceee91b2c728fe0b3e", func := "loop.example/pub-g03265/laws.FnAbsolute", spec := "fnAbsolute", inPlace := ["internal/abi.NoEscape", "internal/bytealg.MakeNoZero"], unfollowed := true, recurses := true, named := ["unicode/utf8.first", "unicode/utf8.acceptRanges", "unicode.CaseRanges", "loop.example/pub-g03265/pub/money.ErrCurrencyMismatch"], ifaces := true, apart := false, laid := [("unicode/utf8.acceptRanges", laid_unicode_utf8_acceptRanges), ("loop.example/pub-g03265/pub/money.ErrCurrencyMismatch", laid_loop_example_pub_g03265_pub_money_ErrCurrencyMismatch), ("unicode.CaseRanges", laid_unicode_CaseRanges), ("unicode/utf8.first", laid_unicode_utf8_first)], narrowed := true }
def FnAbsoluteUptoSaid : Prop := fnAbsoluteUptoRow.holds Tryd.pinned (OpenSpec.upto fnAbsoluteSpec)

/-- 'laws.FnNegative', WHERE WHAT IT READS IS OF BULK AT MOST 1048576: true; the input reads as it did. -/
def fnNegativeUptoRow : OpenClaim := { program := "yteanfkmchfhfpaadoor", sum := "77b7e2b9127b59d5b0e96af1a8c95a9f6ff5917ababf09ceee91b2c728fe0b3e", func := "loop.example/pub-g03265/laws.FnNegative", spec := "fnNegative", inPlace := ["internal/abi.NoEscape", "internal/bytealg.MakeNoZero"], unfollowed := true, recurses := true, named := ["unicode/utf8.first", "unicode/utf8.acceptRanges", "unicode.CaseRanges", "loop.example/pub-g03265/pub/money.ErrCurrencyMismatch"], ifaces := true, apart := false, laid := [("unicode/utf8.acceptRanges", laid_unicode_utf8_acceptRanges), ("loop.example/pub-g03265/pub/money.ErrCurrencyMismatch", laid_loop_example_pub_g03265_pub_money_ErrCurrencyMismatch), ("unicode.CaseRanges", laid_unicode_CaseRanges), ("unicode/utf8.first", laid_unicode_utf8_first)], narrowed := true }
def FnNegativeUptoSaid : Prop := fnNegativeUptoRow.holds Tryd.pinned (OpenSpec.upto fnNegativeSpec)

/-- 'laws.FnCurrency', WHERE WHAT IT READS IS OF BULK AT MOST 1048576: true; the input reads as it did. -/
def fnCurrencyUptoRow : OpenClaim := { program := "yteanfkmchfhfpaadoor", sum := "77b7e2b9127b59d5b0e96af1a8c95a9f6ff5917ababf09ceee91b2c728fe0b3e", func := "loop.example/pub-g03265/laws.FnCurrency", spec := "fnCurrency", inPlace := ["internal/abi.NoEscape", "internal/bytealg.MakeNoZero"], unfollowed := true, recurses := true, named := ["unicode/utf8.first", "unicode/utf8.acceptRanges", "unicode.CaseRanges", "loop.example/pub-g03265/pub/money.ErrCurrencyMismatch"], ifaces := true, apart := false, laid := [("unicode/utf8.acceptRanges", laid_unicode_utf8_acceptRanges), ("loop.example/pub-g03265/pub/money.ErrCurrencyMismatch", laid_loop_example_pub_g03265_pub_money_ErrCurrencyMismatch), ("unicode.CaseRanges", laid_unicode_CaseRanges), ("unicode/utf8.first", laid_unicode_utf8_first)], narrowed := true }
def FnCurrencyUptoSaid : Prop := fnCurrencyUptoRow.holds Tryd.pinned (OpenSpec.upto fnCurrencySpec)

/-- 'laws.FnMultiply', WHERE WHAT IT READS IS OF BULK AT MOST 1048576: true; the input reads as it did. -/
def fnMultiplyUptoRow : OpenClaim := { program := "yteanfkmchfhfpaadoor", sum := "77b7e2b9127b59d5b0e96af1a8c95a9f6ff5917ababf09ceee91b2c728fe0b3e", func := "loop.example/pub-g03265/laws.FnMultiply", spec := "fnMultiply", inPlace := ["internal/abi.NoEscape", "internal/bytealg.MakeNoZero"], unfollowed := true, recurses := true, named := ["unicode/utf8.first", "unicode/utf8.acceptRanges", "unicode.CaseRanges", "loop.example/pub-g03265/pub/money.ErrCurrencyMismatch"], ifaces := true, apart := false, laid := [("unicode/utf8.acceptRanges", laid_unicode_utf8_acceptRanges), ("loop.example/pub-g03265/pub/money.ErrCurrencyMismatch", laid_loop_example_pub_g03265_pub_money_ErrCurrencyMismatch), ("unicode.CaseRanges", laid_unicode_CaseRanges), ("unicode/utf8.first", laid_unicode_utf8_first)], narrowed := true }
def FnMultiplyUptoSaid : Prop := fnMultiplyUptoRow.holds Tryd.pinned (OpenSpec.upto fnMultiplySpec)

/-- 'laws.FnOrder', WHERE WHAT IT READS IS OF BULK AT MOST 1048576: true; the input reads as it did. -/
def fnOrderUptoRow : OpenClaim := { program := "yteanfkmchfhfpaadoor", sum := "77b7e2b9127b59d5b0e96af1a8c95a9f6ff5917ababf09ceee91b2c728fe0b3e", func := "loop.example/pub-g03265/laws.FnOrder", spec := "fnOrder", inPlace := ["internal/abi.NoEscape", "internal/bytealg.MakeNoZero"], unfollowed := true, recurses := true, named := ["unicode/utf8.first", "unicode/utf8.acceptRanges", "unicode.CaseRanges", "loop.example/pub-g03265/pub/money.ErrCurrencyMismatch"], ifaces := true, apart := false, laid := [("unicode/utf8.acceptRanges", laid_unicode_utf8_acceptRanges), ("loop.example/pub-g03265/pub/money.ErrCurrencyMismatch", laid_loop_example_pub_g03265_pub_money_ErrCurrencyMismatch), ("unicode.CaseRanges", laid_unicode_CaseRanges), ("unicode/utf8.first", laid_unicode_utf8_first)], narrowed := true }
def FnOrderUptoSaid : Prop := fnOrderUptoRow.holds Tryd.pinned (OpenSpec.upto fnOrderSpec)

/-- 'laws.FnOf', WHERE WHAT IT READS IS OF BULK AT MOST 1048576: true; the input reads as it did. -/
def fnOfUptoRow : OpenClaim := { program := "yteanfkmchfhfpaadoor", sum := "77b7e2b9127b59d5b0e96af1a8c95a9f6ff5917ababf09ceee91b2c728fe0b3e", func := "loop.example/pub-g03265/laws.FnOf", spec := "fnOf", inPlace := ["internal/abi.NoEscape", "internal/bytealg.MakeNoZero"], unfollowed := true, recurses := true, named := ["unicode/utf8.first", "unicode/utf8.acceptRanges", "unicode.CaseRanges", "loop.example/pub-g03265/pub/money.ErrCurrencyMismatch"], ifaces := true, apart := false, laid := [("unicode/utf8.acceptRanges", laid_unicode_utf8_acceptRanges), ("loop.example/pub-g03265/pub/money.ErrCurrencyMismatch", laid_loop_example_pub_g03265_pub_money_ErrCurrencyMismatch), ("unicode.CaseRanges", laid_unicode_CaseRanges), ("unicode/utf8.first", laid_unicode_utf8_first)], narrowed := true }
def FnOfUptoSaid : Prop := fnOfUptoRow.holds Tryd.pinned (OpenSpec.upto fnOfSpec)

/-- 'laws.FnSubtract', WHERE WHAT IT READS IS OF BULK AT MOST 1048576: true; the input reads as it did. -/
def fnSubtractUptoRow : OpenClaim := { program := "yteanfkmchfhfpaadoor", sum := "77b7e2b9127b59d5b0e96af1a8c95a9f6ff5917ababf09ceee91b2c728fe0b3e", func := "loop.example/pub-g03265/laws.FnSubtract", spec := "fnSubtract", inPlace := ["internal/abi.NoEscape", "internal/bytealg.MakeNoZero"], unfollowed := true, recurses := true, named := ["unicode/utf8.first", "unicode/utf8.acceptRanges", "unicode.CaseRanges", "loop.example/pub-g03265/pub/money.ErrCurrencyMismatch"], ifaces := true, apart := false, laid := [("unicode/utf8.acceptRanges", laid_unicode_utf8_acceptRanges), ("loop.example/pub-g03265/pub/money.ErrCurrencyMismatch", laid_loop_example_pub_g03265_pub_money_ErrCurrencyMismatch), ("unicode.CaseRanges", laid_unicode_CaseRanges), ("unicode/utf8.first", laid_unicode_utf8_first)], narrowed := true }
def FnSubtractUptoSaid : Prop := fnSubtractUptoRow.holds Tryd.pinned (OpenSpec.upto fnSubtractSpec)

/-- 'laws.FnCompare', WHERE WHAT IT READS IS OF BULK AT MOST 1048576: true; the input reads as it did. -/
def fnCompareUptoRow : OpenClaim := { program := "yteanfkmchfhfpaadoor", sum := "77b7e2b9127b59d5b0e96af1a8c95a9f6ff5917ababf09ceee91b2c728fe0b3e", func := "loop.example/pub-g03265/laws.FnCompare", spec := "fnCompare", inPlace := ["internal/abi.NoEscape", "internal/bytealg.MakeNoZero"], unfollowed := true, recurses := true, named := ["loop.example/pub-g03265/pub/money.ErrCurrencyMismatch", "unicode/utf8.first", "unicode/utf8.acceptRanges", "unicode.CaseRanges"], ifaces := true, apart := false, laid := [("unicode/utf8.acceptRanges", laid_unicode_utf8_acceptRanges), ("loop.example/pub-g03265/pub/money.ErrCurrencyMismatch", laid_loop_example_pub_g03265_pub_money_ErrCurrencyMismatch), ("unicode.CaseRanges", laid_unicode_CaseRanges), ("unicode/utf8.first", laid_unicode_utf8_first)], narrowed := true }
def FnCompareUptoSaid : Prop := fnCompareUptoRow.holds Tryd.pinned (OpenSpec.upto fnCompareSpec)

end Rows
end Go.Proofs.YteanfkmchfhfpaaDoor
