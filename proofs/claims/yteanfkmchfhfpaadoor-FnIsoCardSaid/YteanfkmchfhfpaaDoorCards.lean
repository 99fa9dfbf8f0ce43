/-
  DERIVED. GIVEN WITH THE SEED: THE CARDS: each row of YteanfkmchfhfpaaDoorRows.lean that lists a variable, with what it lists TIED to the program's text (the seventh form; the later family's looks); each row that meets fmt, with fmt's text TOLD by the authors' own Lean function (tested against real Go, not proved from fmt's source: count such statements apart). THE CARD IS WHAT COUNTS. Prove the row's statement (the work); the ties are given (YteanfkmchfhfpaaDoorTie.lean); close each card by the builder's one call (the guide's Derived/Test/ToyasCard.lean, 'card_holds'). Laid BY PROGRAM, IN A SANDBOX (cutbox-door.mjs). By AI agents, Wed Nov 11 2026. No macro, syntax, notation, axiom, sorry.
-/
import Derived.Test.YteanfkmchfhfpaaDoorRows
import GoSem.ClaimSeven
namespace Go.Proofs.YteanfkmchfhfpaaDoor
namespace Rows

/-- THE TIED CARD OF 'laws.FnIso'. -/
def fnIsoCard : Claim7 := { stood := { row := fnIsoRow, standIns := [], harness := (true, "e98453e36a7bf04d0f13731a8b7fad47b4632498c1f9f3abd490f21bbf6295de"), looks := false }, kinds := [], alts := [], laidByText := true, laidKinds := [.data, .pinned, .pinned], laidTests := true, laidLooks := .later }
def FnIsoCardSaid : Prop := Claim7.holds Tryd.pinned (.plain (OpenSpec.ofChange fnIsoSpec)) fnIsoCard

/-- THE TIED CARD OF 'laws.FnAdd'. -/
def fnAddCard : Claim7 := { stood := { row := fnAddRow, standIns := [], harness := (true, "e98453e36a7bf04d0f13731a8b7fad47b4632498c1f9f3abd490f21bbf6295de"), looks := false }, kinds := [], alts := [], laidByText := true, laidKinds := [.data, .sentinel, .pinned, .pinned], laidTests := true, laidLooks := .later }
def FnAddCardSaid : Prop := Claim7.holds Tryd.pinned (.plain (OpenSpec.ofChange fnAddSpec)) fnAddCard

/-- THE TIED CARD OF 'laws.FnAbsolute'. -/
def fnAbsoluteCard : Claim7 := { stood := { row := fnAbsoluteRow, standIns := [], harness := (true, "e98453e36a7bf04d0f13731a8b7fad47b4632498c1f9f3abd490f21bbf6295de"), looks := false }, kinds := [], alts := [], laidByText := true, laidKinds := [.data, .sentinel, .pinned, .pinned], laidTests := true, laidLooks := .later }
def FnAbsoluteCardSaid : Prop := Claim7.holds Tryd.pinned (.plain (OpenSpec.ofChange fnAbsoluteSpec)) fnAbsoluteCard

/-- THE TIED CARD OF 'laws.FnNegative'. -/
def fnNegativeCard : Claim7 := { stood := { row := fnNegativeRow, standIns := [], harness := (true, "e98453e36a7bf04d0f13731a8b7fad47b4632498c1f9f3abd490f21bbf6295de"), looks := false }, kinds := [], alts := [], laidByText := true, laidKinds := [.data, .sentinel, .pinned, .pinned], laidTests := true, laidLooks := .later }
def FnNegativeCardSaid : Prop := Claim7.holds Tryd.pinned (.plain (OpenSpec.ofChange fnNegativeSpec)) fnNegativeCard

/-- THE TIED CARD OF 'laws.FnCurrency'. -/
def fnCurrencyCard : Claim7 := { stood := { row := fnCurrencyRow, standIns := [], harness := (true, "e98453e36a7bf04d0f13731a8b7fad47b4632498c1f9f3abd490f21bbf6295de"), looks := false }, kinds := [], alts := [], laidByText := true, laidKinds := [.data, .sentinel, .pinned, .pinned], laidTests := true, laidLooks := .later }
def FnCurrencyCardSaid : Prop := Claim7.holds Tryd.pinned (.plain (OpenSpec.ofChange fnCurrencySpec)) fnCurrencyCard

/-- THE TIED CARD OF 'laws.FnMultiply'. -/
def fnMultiplyCard : Claim7 := { stood := { row := fnMultiplyRow, standIns := [], harness := (true, "e98453e36a7bf04d0f13731a8b7fad47b4632498c1f9f3abd490f21bbf6295de"), looks := false }, kinds := [], alts := [], laidByText := true, laidKinds := [.data, .sentinel, .pinned, .pinned], laidTests := true, laidLooks := .later }
def FnMultiplyCardSaid : Prop := Claim7.holds Tryd.pinned (.plain (OpenSpec.ofChange fnMultiplySpec)) fnMultiplyCard

/-- THE TIED CARD OF 'laws.FnOrder'. -/
def fnOrderCard : Claim7 := { stood := { row := fnOrderRow, standIns := [], harness := (true, "e98453e36a7bf04d0f13731a8b7fad47b4632498c1f9f3abd490f21bbf6295de"), looks := false }, kinds := [], alts := [], laidByText := true, laidKinds := [.data, .sentinel, .pinned, .pinned], laidTests := true, laidLooks := .later }
def FnOrderCardSaid : Prop := Claim7.holds Tryd.pinned (.plain (OpenSpec.ofChange fnOrderSpec)) fnOrderCard

/-- THE TIED CARD OF 'laws.FnOf'. -/
def fnOfCard : Claim7 := { stood := { row := fnOfRow, standIns := [], harness := (true, "e98453e36a7bf04d0f13731a8b7fad47b4632498c1f9f3abd490f21bbf6295de"), looks := false }, kinds := [], alts := [], laidByText := true, laidKinds := [.data, .sentinel, .pinned, .pinned], laidTests := true, laidLooks := .later }
def FnOfCardSaid : Prop := Claim7.holds Tryd.pinned (.plain (OpenSpec.ofChange fnOfSpec)) fnOfCard

/-- THE TIED CARD OF 'laws.FnSubtract'. -/
def fnSubtractCard : Claim7 := { stood := { row := fnSubtractRow, standIns := [], harness := (true, "e98453e36a7bf04d0f13731a8b7fad47b4632498c1f9f3abd490f21bbf6295de"), looks := false }, kinds := [], alts := [], laidByText := true, laidKinds := [.data, .sentinel, .pinned, .pinned], laidTests := true, laidLooks := .later }
def FnSubtractCardSaid : Prop := Claim7.holds Tryd.pinned (.plain (OpenSpec.ofChange fnSubtractSpec)) fnSubtractCard

/-- THE TIED CARD OF 'laws.FnCompare'. -/
def fnCompareCard : Claim7 := { stood := { row := fnCompareRow, standIns := [], harness := (true, "e98453e36a7bf04d0f13731a8b7fad47b4632498c1f9f3abd490f21bbf6295de"), looks := false }, kinds := [], alts := [], laidByText := true, laidKinds := [.data, .sentinel, .pinned, .pinned], laidTests := true, laidLooks := .later }
def FnCompareCardSaid : Prop := Claim7.holds Tryd.pinned (.plain (OpenSpec.ofChange fnCompareSpec)) fnCompareCard

/-- THE SECOND FORM's CARD OF 'laws.FnIso'. -/
def fnIsoUptoCard : Claim7 := { stood := { row := fnIsoUptoRow, standIns := [], harness := (true, "e98453e36a7bf04d0f13731a8b7fad47b4632498c1f9f3abd490f21bbf6295de"), looks := false }, kinds := [], alts := [], laidByText := true, laidKinds := [.data, .pinned, .pinned], laidTests := true, laidLooks := .later }
def FnIsoUptoCardSaid : Prop := Claim7.holds Tryd.pinned (.plain (OpenSpec.upto fnIsoSpec)) fnIsoUptoCard

/-- THE SECOND FORM's CARD OF 'laws.FnAdd'. -/
def fnAddUptoCard : Claim7 := { stood := { row := fnAddUptoRow, standIns := [], harness := (true, "e98453e36a7bf04d0f13731a8b7fad47b4632498c1f9f3abd490f21bbf6295de"), looks := false }, kinds := [], alts := [], laidByText := true, laidKinds := [.data, .sentinel, .pinned, .pinned], laidTests := true, laidLooks := .later }
def FnAddUptoCardSaid : Prop := Claim7.holds Tryd.pinned (.plain (OpenSpec.upto fnAddSpec)) fnAddUptoCard

/-- THE SECOND FORM's CARD OF 'laws.FnAbsolute'. -/
def fnAbsoluteUptoCard : Claim7 := { stood := { row := fnAbsoluteUptoRow, standIns := [], harness := (true, "e98453e36a7bf04d0f13731a8b7fad47b4632498c1f9f3abd490f21bbf6295de"), looks := false }, kinds := [], alts := [], laidByText := true, laidKinds := [.data, .sentinel, .pinned, .pinned], laidTests := true, laidLooks := .later }
def FnAbsoluteUptoCardSaid : Prop := Claim7.holds Tryd.pinned (.plain (OpenSpec.upto fnAbsoluteSpec)) fnAbsoluteUptoCard

/-- THE SECOND FORM's CARD OF 'laws.FnNegative'. -/
def fnNegativeUptoCard : Claim7 := { stood := { row := fnNegativeUptoRow, standIns := [], harness := (true, "e98453e36a7bf04d0f13731a8b7fad47b4632498c1f9f3abd490f21bbf6295de"), looks := false }, kinds := [], alts := [], laidByText := true, laidKinds := [.data, .sentinel, .pinned, .pinned], laidTests := true, laidLooks := .later }
def FnNegativeUptoCardSaid : Prop := Claim7.holds Tryd.pinned (.plain (OpenSpec.upto fnNegativeSpec)) fnNegativeUptoCard

/-- THE SECOND FORM's CARD OF 'laws.FnCurrency'. -/
def fnCurrencyUptoCard : Claim7 := { stood := { row := fnCurrencyUptoRow, standIns := [], harness := (true, "e98453e36a7bf04d0f13731a8b7fad47b4632498c1f9f3abd490f21bbf6295de"), looks := false }, kinds := [], alts := [], laidByText := true, laidKinds := [.data, .sentinel, .pinned, .pinned], laidTests := true, laidLooks := .later }
def FnCurrencyUptoCardSaid : Prop := Claim7.holds Tryd.pinned (.plain (OpenSpec.upto fnCurrencySpec)) fnCurrencyUptoCard

/-- THE SECOND FORM's CARD OF 'laws.FnMultiply'. -/
def fnMultiplyUptoCard : Claim7 := { stood := { row := fnMultiplyUptoRow, standIns := [], harness := (true, "e98453e36a7bf04d0f13731a8b7fad47b4632498c1f9f3abd490f21bbf6295de"), looks := false }, kinds := [], alts := [], laidByText := true, laidKinds := [.data, .sentinel, .pinned, .pinned], laidTests := true, laidLooks := .later }
def FnMultiplyUptoCardSaid : Prop := Claim7.holds Tryd.pinned (.plain (OpenSpec.upto fnMultiplySpec)) fnMultiplyUptoCard

/-- THE SECOND FORM's CARD OF 'laws.FnOrder'. -/
def fnOrderUptoCard : Claim7 := { stood := { row := fnOrderUptoRow, standIns := [], harness := (true, "e98453e36a7bf04d0f13731a8b7fad47b4632498c1f9f3abd490f21bbf6295de"), looks := false }, kinds := [], alts := [], laidByText := true, laidKinds := [.data, .sentinel, .pinned, .pinned], laidTests := true, laidLooks := .later }
def FnOrderUptoCardSaid : Prop := Claim7.holds Tryd.pinned (.plain (OpenSpec.upto fnOrderSpec)) fnOrderUptoCard

/-- THE SECOND FORM's CARD OF 'laws.FnOf'. -/
def fnOfUptoCard : Claim7 := { stood := { row := fnOfUptoRow, standIns := [], harness := (true, "e98453e36a7bf04d0f13731a8b7fad47b4632498c1f9f3abd490f21bbf6295de"), looks := false }, kinds := [], alts := [], laidByText := true, laidKinds := [.data, .sentinel, .pinned, .pinned], laidTests := true, laidLooks := .later }
def FnOfUptoCardSaid : Prop := Claim7.holds Tryd.pinned (.plain (OpenSpec.upto fnOfSpec)) fnOfUptoCard

/-- THE SECOND FORM's CARD OF 'laws.FnSubtract'. -/
def fnSubtractUptoCard : Claim7 := { stood := { row := fnSubtractUptoRow, standIns := [], harness := (true, "e98453e36a7bf04d0f13731a8b7fad47b4632498c1f9f3abd490f21bbf6295de"), looks := false }, kinds := [], alts := [], laidByText := true, laidKinds := [.data, .sentinel, .pinned, .pinned], laidTests := true, laidLooks := .later }
def FnSubtractUptoCardSaid : Prop := Claim7.holds Tryd.pinned (.plain (OpenSpec.upto fnSubtractSpec)) fnSubtractUptoCard

/-- THE SECOND FORM's CARD OF 'laws.FnCompare'. -/
def fnCompareUptoCard : Claim7 := { stood := { row := fnCompareUptoRow, standIns := [], harness := (true, "e98453e36a7bf04d0f13731a8b7fad47b4632498c1f9f3abd490f21bbf6295de"), looks := false }, kinds := [], alts := [], laidByText := true, laidKinds := [.data, .sentinel, .pinned, .pinned], laidTests := true, laidLooks := .later }
def FnCompareUptoCardSaid : Prop := Claim7.holds Tryd.pinned (.plain (OpenSpec.upto fnCompareSpec)) fnCompareUptoCard
end Rows
end Go.Proofs.YteanfkmchfhfpaaDoor
