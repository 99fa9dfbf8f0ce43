/-
  DERIVED. GIVEN WITH THE SEED: THE CARDS: each row of YthdgpoimbijgfaaDoorRows.lean that lists a variable, with what it lists TIED to the program's text (the seventh form; the later family's looks); each row that meets fmt, with fmt's text TOLD by the authors' own Lean function (tested against real Go, not proved from fmt's source: count such statements apart). THE CARD IS WHAT COUNTS. Prove the row's statement (the work); the ties are given (YthdgpoimbijgfaaDoorTie.lean); close each card by the builder's one call (the guide's Derived/Test/ToyasCard.lean, 'card_holds'). Laid BY PROGRAM, IN A SANDBOX (cutbox-door.mjs). By AI agents, Wed Nov 11 2026. No macro, syntax, notation, axiom, sorry.
-/
import Derived.Test.YthdgpoimbijgfaaDoorRows
import GoSem.ClaimSeven
namespace Go.Proofs.YthdgpoimbijgfaaDoor
namespace Rows

/-- THE TIED CARD OF 'laws.FnSame'. -/
def fnSameCard : Claim7 := { stood := { row := fnSameRow, standIns := [], harness := (true, "fbbd45d5c190acd09c347298abf50b744e7d68322d1c0538bf8c9d1d758bcf81"), looks := false }, kinds := [], alts := [], laidByText := true, laidKinds := [.data, .pinned, .pinned], laidTests := true, laidLooks := .later }
def FnSameCardSaid : Prop := Claim7.holds Tryd.pinned (.plain (OpenSpec.ofChange fnSameSpec)) fnSameCard

/-- THE TIED CARD OF 'laws.FnSigns'. -/
def fnSignsCard : Claim7 := { stood := { row := fnSignsRow, standIns := [], harness := (true, "fbbd45d5c190acd09c347298abf50b744e7d68322d1c0538bf8c9d1d758bcf81"), looks := false }, kinds := [], alts := [], laidByText := true, laidKinds := [.data, .pinned, .pinned], laidTests := true, laidLooks := .later }
def FnSignsCardSaid : Prop := Claim7.holds Tryd.pinned (.plain (OpenSpec.ofChange fnSignsSpec)) fnSignsCard

/-- THE SECOND FORM's CARD OF 'laws.FnSame'. -/
def fnSameUptoCard : Claim7 := { stood := { row := fnSameUptoRow, standIns := [], harness := (true, "fbbd45d5c190acd09c347298abf50b744e7d68322d1c0538bf8c9d1d758bcf81"), looks := false }, kinds := [], alts := [], laidByText := true, laidKinds := [.data, .pinned, .pinned], laidTests := true, laidLooks := .later }
def FnSameUptoCardSaid : Prop := Claim7.holds Tryd.pinned (.plain (OpenSpec.upto fnSameSpec)) fnSameUptoCard

/-- THE SECOND FORM's CARD OF 'laws.FnSigns'. -/
def fnSignsUptoCard : Claim7 := { stood := { row := fnSignsUptoRow, standIns := [], harness := (true, "fbbd45d5c190acd09c347298abf50b744e7d68322d1c0538bf8c9d1d758bcf81"), looks := false }, kinds := [], alts := [], laidByText := true, laidKinds := [.data, .pinned, .pinned], laidTests := true, laidLooks := .later }
def FnSignsUptoCardSaid : Prop := Claim7.holds Tryd.pinned (.plain (OpenSpec.upto fnSignsSpec)) fnSignsUptoCard
end Rows
end Go.Proofs.YthdgpoimbijgfaaDoor
