/-
  DERIVED. GIVEN WITH THE SEED: THE CARDS: each row of YtfbjpaolingfdaaGreatDoorRows.lean that lists a variable, with what it lists TIED to the program's text (the seventh form; the later family's looks); each row that meets fmt, with fmt's text TOLD by the authors' own Lean function (tested against real Go, not proved from fmt's source: count such statements apart). THE CARD IS WHAT COUNTS. Prove the row's statement (the work); the ties are given (YtfbjpaolingfdaaGreatDoorTie.lean); close each card by the builder's one call (the guide's Derived/Test/ToyasCard.lean, 'card_holds'). Laid BY PROGRAM, IN A SANDBOX (cutbox-door.mjs). By AI agents, Wed Nov 11 2026. No macro, syntax, notation, axiom, sorry.
-/
import Derived.Test.YtfbjpaolingfdaaGreatDoorRows
import GoSem.ClaimSeven
namespace Go.Proofs.YtfbjpaolingfdaaGreatDoor
namespace Rows

/-- THE TIED CARD OF 'laws.FnTextjoin'. -/
def fnTextjoinCard : Claim7 := { stood := { row := fnTextjoinRow, standIns := [], harness := (true, "df5d8aeffe72ace05458e9160138fad414eb62f0ce5de0967dcb54f8edf86f16"), looks := true }, kinds := [], alts := [], laidByText := true, laidKinds := [.data, .data, .data, .data, .pinned, .pinned], laidTests := true, laidLooks := .later }
def FnTextjoinCardSaid : Prop := Claim7.holds Tryz.pinned (.plain (OpenSpec.ofChange fnTextjoinSpec)) fnTextjoinCard

/-- THE TIED CARD OF 'laws.FnUnichar'. -/
def fnUnicharCard : Claim7 := { stood := { row := fnUnicharRow, standIns := [], harness := (true, "df5d8aeffe72ace05458e9160138fad414eb62f0ce5de0967dcb54f8edf86f16"), looks := true }, kinds := [], alts := [], laidByText := true, laidKinds := [.data, .data, .widerDeep, .widerDeep, .data, .data, .data, .data, .data, .sentinel, .sentinel, .pinned, .pinned], laidTests := true, laidLooks := .later }
def FnUnicharCardSaid : Prop := Claim7.holds Tryz.pinned (.plain (OpenSpec.ofChange fnUnicharSpec)) fnUnicharCard

/-- THE TIED CARD OF 'laws.FnIslogical'. -/
def fnIslogicalCard : Claim7 := { stood := { row := fnIslogicalRow, standIns := [], harness := (true, "df5d8aeffe72ace05458e9160138fad414eb62f0ce5de0967dcb54f8edf86f16"), looks := true }, kinds := [], alts := [], laidByText := true, laidKinds := [.data, .data, .data, .data, .data, .data, .data, .pinned, .pinned, .pinned, .pinned], laidTests := true, laidLooks := .later }
def FnIslogicalCardSaid : Prop := Claim7.holds Tryz.pinned (.plain (OpenSpec.ofChange fnIslogicalSpec)) fnIslogicalCard

/-- THE SECOND FORM's CARD OF 'laws.FnTextjoin'. -/
def fnTextjoinUptoCard : Claim7 := { stood := { row := fnTextjoinUptoRow, standIns := [], harness := (true, "df5d8aeffe72ace05458e9160138fad414eb62f0ce5de0967dcb54f8edf86f16"), looks := true }, kinds := [], alts := [], laidByText := true, laidKinds := [.data, .data, .data, .data, .pinned, .pinned], laidTests := true, laidLooks := .later }
def FnTextjoinUptoCardSaid : Prop := Claim7.holds Tryz.pinned (.plain (OpenSpec.upto fnTextjoinSpec)) fnTextjoinUptoCard

/-- THE SECOND FORM's CARD OF 'laws.FnUnichar'. -/
def fnUnicharUptoCard : Claim7 := { stood := { row := fnUnicharUptoRow, standIns := [], harness := (true, "df5d8aeffe72ace05458e9160138fad414eb62f0ce5de0967dcb54f8edf86f16"), looks := true }, kinds := [], alts := [], laidByText := true, laidKinds := [.data, .data, .widerDeep, .widerDeep, .data, .data, .data, .data, .data, .sentinel, .sentinel, .pinned, .pinned], laidTests := true, laidLooks := .later }
def FnUnicharUptoCardSaid : Prop := Claim7.holds Tryz.pinned (.plain (OpenSpec.upto fnUnicharSpec)) fnUnicharUptoCard

/-- THE SECOND FORM's CARD OF 'laws.FnIslogical'. -/
def fnIslogicalUptoCard : Claim7 := { stood := { row := fnIslogicalUptoRow, standIns := [], harness := (true, "df5d8aeffe72ace05458e9160138fad414eb62f0ce5de0967dcb54f8edf86f16"), looks := true }, kinds := [], alts := [], laidByText := true, laidKinds := [.data, .data, .data, .data, .data, .data, .data, .pinned, .pinned, .pinned, .pinned], laidTests := true, laidLooks := .later }
def FnIslogicalUptoCardSaid : Prop := Claim7.holds Tryz.pinned (.plain (OpenSpec.upto fnIslogicalSpec)) fnIslogicalUptoCard
end Rows
end Go.Proofs.YtfbjpaolingfdaaGreatDoor
