/-
  DERIVED. GIVEN WITH THE SEED: THE CARDS: each row of YtopgbalmdocboaaGreatDoorRows.lean that lists a variable, with what it lists TIED to the program's text (the seventh form; the later family's looks); each row that meets fmt, with fmt's text TOLD by the authors' own Lean function (tested against real Go, not proved from fmt's source: count such statements apart). THE CARD IS WHAT COUNTS. Prove the row's statement (the work); the ties are given (YtopgbalmdocboaaGreatDoorTie.lean); close each card by the builder's one call (the guide's Derived/Test/ToyasCard.lean, 'card_holds'). Laid BY PROGRAM, IN A SANDBOX (cutbox-door.mjs). By AI agents, Wed Nov 11 2026. No macro, syntax, notation, axiom, sorry.
-/
import Derived.Test.YtopgbalmdocboaaGreatDoorRows
import GoSem.ClaimSeven
namespace Go.Proofs.YtopgbalmdocboaaGreatDoor
namespace Rows

/-- THE TIED CARD OF 'laws.FnIslogical'. -/
def fnIslogicalCard : Claim7 := { stood := { row := fnIslogicalRow, standIns := [], harness := (true, "b93f8ad85227e29a51c47272d20610baea2326c9dc5df8bde6646eba77a2d81a"), looks := true }, kinds := [], alts := [], laidByText := true, laidKinds := [.data, .data, .data, .data, .data, .data, .data, .pinned, .pinned, .pinned, .pinned], laidTests := true, laidLooks := .later }
def FnIslogicalCardSaid : Prop := Claim7.holds Tryz.pinned (.plain (OpenSpec.ofChange fnIslogicalSpec)) fnIslogicalCard

/-- THE TIED CARD OF 'laws.FnChoose'. -/
def fnChooseCard : Claim7 := { stood := { row := fnChooseRow, standIns := [], harness := (true, "b93f8ad85227e29a51c47272d20610baea2326c9dc5df8bde6646eba77a2d81a"), looks := true }, kinds := [], alts := [], laidByText := true, laidKinds := [.data, .data, .data, .data, .sentinel, .sentinel, .pinned, .pinned], laidTests := true, laidLooks := .later }
def FnChooseCardSaid : Prop := Claim7.holds Tryz.pinned (.plain (OpenSpec.ofChange fnChooseSpec)) fnChooseCard

/-- THE TIED CARD OF 'laws.FnMedian'. -/
def fnMedianCard : Claim7 := { stood := { row := fnMedianRow, standIns := [], harness := (true, "b93f8ad85227e29a51c47272d20610baea2326c9dc5df8bde6646eba77a2d81a"), looks := true }, kinds := [], alts := [], laidByText := true, laidKinds := [.data, .data, .widerDeep, .widerDeep, .data, .data, .data, .data, .data, .sentinel, .sentinel, .pinned, .pinned], laidTests := true, laidLooks := .later }
def FnMedianCardSaid : Prop := Claim7.holds Tryz.pinned (.plain (OpenSpec.ofChange fnMedianSpec)) fnMedianCard

/-- THE TIED CARD OF 'laws.FnUnique'. -/
def fnUniqueCard : Claim7 := { stood := { row := fnUniqueRow, standIns := [], harness := (true, "b93f8ad85227e29a51c47272d20610baea2326c9dc5df8bde6646eba77a2d81a"), looks := true }, kinds := [], alts := [], laidByText := true, laidKinds := [.data, .data, .data, .data, .sentinel, .sentinel, .pinned, .pinned], laidTests := true, laidLooks := .later }
def FnUniqueCardSaid : Prop := Claim7.holds Tryz.pinned (.plain (OpenSpec.ofChange fnUniqueSpec)) fnUniqueCard

/-- THE SECOND FORM's CARD OF 'laws.FnIslogical'. -/
def fnIslogicalUptoCard : Claim7 := { stood := { row := fnIslogicalUptoRow, standIns := [], harness := (true, "b93f8ad85227e29a51c47272d20610baea2326c9dc5df8bde6646eba77a2d81a"), looks := true }, kinds := [], alts := [], laidByText := true, laidKinds := [.data, .data, .data, .data, .data, .data, .data, .pinned, .pinned, .pinned, .pinned], laidTests := true, laidLooks := .later }
def FnIslogicalUptoCardSaid : Prop := Claim7.holds Tryz.pinned (.plain (OpenSpec.upto fnIslogicalSpec)) fnIslogicalUptoCard

/-- THE SECOND FORM's CARD OF 'laws.FnChoose'. -/
def fnChooseUptoCard : Claim7 := { stood := { row := fnChooseUptoRow, standIns := [], harness := (true, "b93f8ad85227e29a51c47272d20610baea2326c9dc5df8bde6646eba77a2d81a"), looks := true }, kinds := [], alts := [], laidByText := true, laidKinds := [.data, .data, .data, .data, .sentinel, .sentinel, .pinned, .pinned], laidTests := true, laidLooks := .later }
def FnChooseUptoCardSaid : Prop := Claim7.holds Tryz.pinned (.plain (OpenSpec.upto fnChooseSpec)) fnChooseUptoCard

/-- THE SECOND FORM's CARD OF 'laws.FnMedian'. -/
def fnMedianUptoCard : Claim7 := { stood := { row := fnMedianUptoRow, standIns := [], harness := (true, "b93f8ad85227e29a51c47272d20610baea2326c9dc5df8bde6646eba77a2d81a"), looks := true }, kinds := [], alts := [], laidByText := true, laidKinds := [.data, .data, .widerDeep, .widerDeep, .data, .data, .data, .data, .data, .sentinel, .sentinel, .pinned, .pinned], laidTests := true, laidLooks := .later }
def FnMedianUptoCardSaid : Prop := Claim7.holds Tryz.pinned (.plain (OpenSpec.upto fnMedianSpec)) fnMedianUptoCard

/-- THE SECOND FORM's CARD OF 'laws.FnUnique'. -/
def fnUniqueUptoCard : Claim7 := { stood := { row := fnUniqueUptoRow, standIns := [], harness := (true, "b93f8ad85227e29a51c47272d20610baea2326c9dc5df8bde6646eba77a2d81a"), looks := true }, kinds := [], alts := [], laidByText := true, laidKinds := [.data, .data, .data, .data, .sentinel, .sentinel, .pinned, .pinned], laidTests := true, laidLooks := .later }
def FnUniqueUptoCardSaid : Prop := Claim7.holds Tryz.pinned (.plain (OpenSpec.upto fnUniqueSpec)) fnUniqueUptoCard
end Rows
end Go.Proofs.YtopgbalmdocboaaGreatDoor
