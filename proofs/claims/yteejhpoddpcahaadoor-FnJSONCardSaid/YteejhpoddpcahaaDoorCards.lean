/-
  DERIVED. GIVEN WITH THE SEED: THE CARDS: each row of YteejhpoddpcahaaDoorRows.lean that lists a variable, with what it lists TIED to the program's text (the seventh form; the later family's looks); each row that meets fmt, with fmt's text TOLD by the authors' own Lean function (tested against real Go, not proved from fmt's source: count such statements apart). THE CARD IS WHAT COUNTS. Prove the row's statement (the work); the ties are given (YteejhpoddpcahaaDoorTie.lean); close each card by the builder's one call (the guide's Derived/Test/ToyasCard.lean, 'card_holds'). Laid BY PROGRAM, IN A SANDBOX (cutbox-door.mjs). By AI agents, Wed Nov 11 2026. No macro, syntax, notation, axiom, sorry.
-/
import Derived.Test.YteejhpoddpcahaaDoorRows
import GoSem.ClaimSeven
namespace Go.Proofs.YteejhpoddpcahaaDoor
namespace Rows

/-- THE TIED CARD OF 'laws.FnFormat'. -/
def fnFormatCard : Claim7 := { stood := { row := fnFormatRow, standIns := [], harness := (true, "09beddd331c8768c23d2860c62ba2b1b3afa34472282f6c43f8f5300b4060fdf"), looks := false }, kinds := [], alts := [], laidByText := true, laidKinds := [.data, .data, .data, .data, .sentinel, .pinned, .pinned], laidTests := true, laidLooks := .later }
def FnFormatCardSaid : Prop := Claim7.holds Tryd.pinned (.plain (OpenSpec.ofChange fnFormatSpec)) fnFormatCard

/-- THE TIED CARD OF 'laws.FnDisplay'. -/
def fnDisplayCard : Claim7 := { stood := { row := fnDisplayRow, standIns := [], harness := (true, "09beddd331c8768c23d2860c62ba2b1b3afa34472282f6c43f8f5300b4060fdf"), looks := false }, kinds := [], alts := [], laidByText := true, laidKinds := [.data, .data, .data, .data, .sentinel, .pinned, .pinned], laidTests := true, laidLooks := .later }
def FnDisplayCardSaid : Prop := Claim7.holds Tryd.pinned (.plain (OpenSpec.ofChange fnDisplaySpec)) fnDisplayCard

/-- THE TIED CARD OF 'laws.FnSplit'. -/
def fnSplitCard : Claim7 := { stood := { row := fnSplitRow, standIns := [], harness := (true, "09beddd331c8768c23d2860c62ba2b1b3afa34472282f6c43f8f5300b4060fdf"), looks := false }, kinds := [], alts := [], laidByText := true, laidKinds := [.data, .sentinel, .pinned, .pinned], laidTests := true, laidLooks := .later }
def FnSplitCardSaid : Prop := Claim7.holds Tryd.pinned (.plain (OpenSpec.ofChange fnSplitSpec)) fnSplitCard

/-- THE TIED CARD OF 'laws.FnAllocate'. -/
def fnAllocateCard : Claim7 := { stood := { row := fnAllocateRow, standIns := [], harness := (true, "09beddd331c8768c23d2860c62ba2b1b3afa34472282f6c43f8f5300b4060fdf"), looks := false }, kinds := [], alts := [], laidByText := true, laidKinds := [.data, .sentinel, .pinned, .pinned], laidTests := true, laidLooks := .later }
def FnAllocateCardSaid : Prop := Claim7.holds Tryd.pinned (.plain (OpenSpec.ofChange fnAllocateSpec)) fnAllocateCard

/-- THE TIED CARD OF 'laws.FnRatios'. -/
def fnRatiosCard : Claim7 := { stood := { row := fnRatiosRow, standIns := [], harness := (true, "09beddd331c8768c23d2860c62ba2b1b3afa34472282f6c43f8f5300b4060fdf"), looks := false }, kinds := [], alts := [], laidByText := true, laidKinds := [.data, .sentinel, .pinned, .pinned], laidTests := true, laidLooks := .later }
def FnRatiosCardSaid : Prop := Claim7.holds Tryd.pinned (.plain (OpenSpec.ofChange fnRatiosSpec)) fnRatiosCard

/-- THE TIED CARD OF 'laws.FnEven'. -/
def fnEvenCard : Claim7 := { stood := { row := fnEvenRow, standIns := [], harness := (true, "09beddd331c8768c23d2860c62ba2b1b3afa34472282f6c43f8f5300b4060fdf"), looks := false }, kinds := [], alts := [], laidByText := true, laidKinds := [.data, .sentinel, .pinned, .pinned], laidTests := true, laidLooks := .later }
def FnEvenCardSaid : Prop := Claim7.holds Tryd.pinned (.plain (OpenSpec.ofChange fnEvenSpec)) fnEvenCard

/-- THE TIED CARD OF 'laws.FnNoLoss'. -/
def fnNoLossCard : Claim7 := { stood := { row := fnNoLossRow, standIns := [], harness := (true, "09beddd331c8768c23d2860c62ba2b1b3afa34472282f6c43f8f5300b4060fdf"), looks := false }, kinds := [], alts := [], laidByText := true, laidKinds := [.data, .sentinel, .pinned, .pinned], laidTests := true, laidLooks := .later }
def FnNoLossCardSaid : Prop := Claim7.holds Tryd.pinned (.plain (OpenSpec.ofChange fnNoLossSpec)) fnNoLossCard

/-- THE TIED CARD OF 'laws.FnJSON'. -/
def fnJSONCard : Claim7 := { stood := { row := fnJSONRow, standIns := [], harness := (true, "09beddd331c8768c23d2860c62ba2b1b3afa34472282f6c43f8f5300b4060fdf"), looks := false }, kinds := [], alts := [], laidByText := true, laidKinds := [.data, .data, .data, .data, .pinned, .pinned], laidTests := true, laidLooks := .later }
def FnJSONCardSaid : Prop := Claim7.holds Tryd.pinned (.plain (OpenSpec.ofChange fnJSONSpec)) fnJSONCard

/-- THE SECOND FORM's CARD OF 'laws.FnFormat'. -/
def fnFormatUptoCard : Claim7 := { stood := { row := fnFormatUptoRow, standIns := [], harness := (true, "09beddd331c8768c23d2860c62ba2b1b3afa34472282f6c43f8f5300b4060fdf"), looks := false }, kinds := [], alts := [], laidByText := true, laidKinds := [.data, .data, .data, .data, .sentinel, .pinned, .pinned], laidTests := true, laidLooks := .later }
def FnFormatUptoCardSaid : Prop := Claim7.holds Tryd.pinned (.plain (OpenSpec.upto fnFormatSpec)) fnFormatUptoCard

/-- THE SECOND FORM's CARD OF 'laws.FnDisplay'. -/
def fnDisplayUptoCard : Claim7 := { stood := { row := fnDisplayUptoRow, standIns := [], harness := (true, "09beddd331c8768c23d2860c62ba2b1b3afa34472282f6c43f8f5300b4060fdf"), looks := false }, kinds := [], alts := [], laidByText := true, laidKinds := [.data, .data, .data, .data, .sentinel, .pinned, .pinned], laidTests := true, laidLooks := .later }
def FnDisplayUptoCardSaid : Prop := Claim7.holds Tryd.pinned (.plain (OpenSpec.upto fnDisplaySpec)) fnDisplayUptoCard

/-- THE SECOND FORM's CARD OF 'laws.FnSplit'. -/
def fnSplitUptoCard : Claim7 := { stood := { row := fnSplitUptoRow, standIns := [], harness := (true, "09beddd331c8768c23d2860c62ba2b1b3afa34472282f6c43f8f5300b4060fdf"), looks := false }, kinds := [], alts := [], laidByText := true, laidKinds := [.data, .sentinel, .pinned, .pinned], laidTests := true, laidLooks := .later }
def FnSplitUptoCardSaid : Prop := Claim7.holds Tryd.pinned (.plain (OpenSpec.upto fnSplitSpec)) fnSplitUptoCard

/-- THE SECOND FORM's CARD OF 'laws.FnAllocate'. -/
def fnAllocateUptoCard : Claim7 := { stood := { row := fnAllocateUptoRow, standIns := [], harness := (true, "09beddd331c8768c23d2860c62ba2b1b3afa34472282f6c43f8f5300b4060fdf"), looks := false }, kinds := [], alts := [], laidByText := true, laidKinds := [.data, .sentinel, .pinned, .pinned], laidTests := true, laidLooks := .later }
def FnAllocateUptoCardSaid : Prop := Claim7.holds Tryd.pinned (.plain (OpenSpec.upto fnAllocateSpec)) fnAllocateUptoCard

/-- THE SECOND FORM's CARD OF 'laws.FnRatios'. -/
def fnRatiosUptoCard : Claim7 := { stood := { row := fnRatiosUptoRow, standIns := [], harness := (true, "09beddd331c8768c23d2860c62ba2b1b3afa34472282f6c43f8f5300b4060fdf"), looks := false }, kinds := [], alts := [], laidByText := true, laidKinds := [.data, .sentinel, .pinned, .pinned], laidTests := true, laidLooks := .later }
def FnRatiosUptoCardSaid : Prop := Claim7.holds Tryd.pinned (.plain (OpenSpec.upto fnRatiosSpec)) fnRatiosUptoCard

/-- THE SECOND FORM's CARD OF 'laws.FnEven'. -/
def fnEvenUptoCard : Claim7 := { stood := { row := fnEvenUptoRow, standIns := [], harness := (true, "09beddd331c8768c23d2860c62ba2b1b3afa34472282f6c43f8f5300b4060fdf"), looks := false }, kinds := [], alts := [], laidByText := true, laidKinds := [.data, .sentinel, .pinned, .pinned], laidTests := true, laidLooks := .later }
def FnEvenUptoCardSaid : Prop := Claim7.holds Tryd.pinned (.plain (OpenSpec.upto fnEvenSpec)) fnEvenUptoCard

/-- THE SECOND FORM's CARD OF 'laws.FnNoLoss'. -/
def fnNoLossUptoCard : Claim7 := { stood := { row := fnNoLossUptoRow, standIns := [], harness := (true, "09beddd331c8768c23d2860c62ba2b1b3afa34472282f6c43f8f5300b4060fdf"), looks := false }, kinds := [], alts := [], laidByText := true, laidKinds := [.data, .sentinel, .pinned, .pinned], laidTests := true, laidLooks := .later }
def FnNoLossUptoCardSaid : Prop := Claim7.holds Tryd.pinned (.plain (OpenSpec.upto fnNoLossSpec)) fnNoLossUptoCard

/-- THE SECOND FORM's CARD OF 'laws.FnJSON'. -/
def fnJSONUptoCard : Claim7 := { stood := { row := fnJSONUptoRow, standIns := [], harness := (true, "09beddd331c8768c23d2860c62ba2b1b3afa34472282f6c43f8f5300b4060fdf"), looks := false }, kinds := [], alts := [], laidByText := true, laidKinds := [.data, .data, .data, .data, .pinned, .pinned], laidTests := true, laidLooks := .later }
def FnJSONUptoCardSaid : Prop := Claim7.holds Tryd.pinned (.plain (OpenSpec.upto fnJSONSpec)) fnJSONUptoCard
end Rows
end Go.Proofs.YteejhpoddpcahaaDoor
