/-
  DERIVED. GIVEN WITH THE SEED: THE CARDS: each row of YtfbdjffpnioinaaDoorRows.lean that lists a variable, with what it lists TIED to the program's text (the seventh form; the later family's looks); each row that meets fmt, with fmt's text TOLD by the authors' own Lean function (tested against real Go, not proved from fmt's source: count such statements apart). THE CARD IS WHAT COUNTS. Prove the row's statement (the work); the ties are given (YtfbdjffpnioinaaDoorTie.lean); close each card by the builder's one call (the guide's Derived/Test/ToyasCard.lean, 'card_holds'). Laid BY PROGRAM, IN A SANDBOX (cutbox-door.mjs). By AI agents, Wed Nov 11 2026. No macro, syntax, notation, axiom, sorry.
-/
import Derived.Test.YtfbdjffpnioinaaDoorRows
import GoSem.ClaimSeven
namespace Go.Proofs.YtfbdjffpnioinaaDoor
namespace Rows

/-- THE TIED CARD OF 'laws.FnFromFloat'. -/
def fnFromFloatCard : Claim7 := { stood := { row := fnFromFloatRow, standIns := [], harness := (true, "4a5d3a0736a6d859a80a5f42a46cb759ef24680e4d99fdbeaa4af596c80365b4"), looks := false }, kinds := [], alts := [], laidByText := true, laidKinds := [.data, .data, .data, .data, .sentinel, .pinned, .pinned], laidTests := true, laidLooks := .later }
def FnFromFloatCardSaid : Prop := Claim7.holds Tryd.pinned (.plain (OpenSpec.ofChange fnFromFloatSpec)) fnFromFloatCard

/-- THE TIED CARD OF 'laws.FnMajor'. -/
def fnMajorCard : Claim7 := { stood := { row := fnMajorRow, standIns := [], harness := (true, "4a5d3a0736a6d859a80a5f42a46cb759ef24680e4d99fdbeaa4af596c80365b4"), looks := false }, kinds := [], alts := [], laidByText := true, laidKinds := [.data, .data, .data, .data, .sentinel, .pinned, .pinned], laidTests := true, laidLooks := .later }
def FnMajorCardSaid : Prop := Claim7.holds Tryd.pinned (.plain (OpenSpec.ofChange fnMajorSpec)) fnMajorCard

/-- THE TIED CARD OF 'laws.FnMajorOf'. -/
def fnMajorOfCard : Claim7 := { stood := { row := fnMajorOfRow, standIns := [], harness := (true, "4a5d3a0736a6d859a80a5f42a46cb759ef24680e4d99fdbeaa4af596c80365b4"), looks := false }, kinds := [], alts := [], laidByText := true, laidKinds := [.data, .data, .data, .data, .sentinel, .pinned, .pinned], laidTests := true, laidLooks := .later }
def FnMajorOfCardSaid : Prop := Claim7.holds Tryd.pinned (.plain (OpenSpec.ofChange fnMajorOfSpec)) fnMajorOfCard

/-- THE SECOND FORM's CARD OF 'laws.FnFromFloat'. -/
def fnFromFloatUptoCard : Claim7 := { stood := { row := fnFromFloatUptoRow, standIns := [], harness := (true, "4a5d3a0736a6d859a80a5f42a46cb759ef24680e4d99fdbeaa4af596c80365b4"), looks := false }, kinds := [], alts := [], laidByText := true, laidKinds := [.data, .data, .data, .data, .sentinel, .pinned, .pinned], laidTests := true, laidLooks := .later }
def FnFromFloatUptoCardSaid : Prop := Claim7.holds Tryd.pinned (.plain (OpenSpec.upto fnFromFloatSpec)) fnFromFloatUptoCard

/-- THE SECOND FORM's CARD OF 'laws.FnMajor'. -/
def fnMajorUptoCard : Claim7 := { stood := { row := fnMajorUptoRow, standIns := [], harness := (true, "4a5d3a0736a6d859a80a5f42a46cb759ef24680e4d99fdbeaa4af596c80365b4"), looks := false }, kinds := [], alts := [], laidByText := true, laidKinds := [.data, .data, .data, .data, .sentinel, .pinned, .pinned], laidTests := true, laidLooks := .later }
def FnMajorUptoCardSaid : Prop := Claim7.holds Tryd.pinned (.plain (OpenSpec.upto fnMajorSpec)) fnMajorUptoCard

/-- THE SECOND FORM's CARD OF 'laws.FnMajorOf'. -/
def fnMajorOfUptoCard : Claim7 := { stood := { row := fnMajorOfUptoRow, standIns := [], harness := (true, "4a5d3a0736a6d859a80a5f42a46cb759ef24680e4d99fdbeaa4af596c80365b4"), looks := false }, kinds := [], alts := [], laidByText := true, laidKinds := [.data, .data, .data, .data, .sentinel, .pinned, .pinned], laidTests := true, laidLooks := .later }
def FnMajorOfUptoCardSaid : Prop := Claim7.holds Tryd.pinned (.plain (OpenSpec.upto fnMajorOfSpec)) fnMajorOfUptoCard
end Rows
end Go.Proofs.YtfbdjffpnioinaaDoor
