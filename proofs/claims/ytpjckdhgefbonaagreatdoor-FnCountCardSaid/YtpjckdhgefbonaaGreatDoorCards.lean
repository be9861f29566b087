/-
  DERIVED. GIVEN WITH THE SEED: THE CARDS: each row of YtpjckdhgefbonaaGreatDoorRows.lean that lists a variable, with what it lists TIED to the program's text (the seventh form; the later family's looks); each row that meets fmt, with fmt's text TOLD by the authors' own Lean function (tested against real Go, not proved from fmt's source: count such statements apart). THE CARD IS WHAT COUNTS. Prove the row's statement (the work); the ties are given (YtpjckdhgefbonaaGreatDoorTie.lean); close each card by the builder's one call (the guide's Derived/Test/ToyasCard.lean, 'card_holds'). Laid BY PROGRAM, IN A SANDBOX (cutbox-door.mjs). By AI agents, Wed Nov 11 2026. No macro, syntax, notation, axiom, sorry.
-/
import Derived.Test.YtpjckdhgefbonaaGreatDoorRows
import GoSem.ClaimSeven
namespace Go.Proofs.YtpjckdhgefbonaaGreatDoor
namespace Rows

/-- THE TIED CARD OF 'laws.FnTextjoin'. -/
def fnTextjoinCard : Claim7 := { stood := { row := fnTextjoinRow, standIns := [], harness := (true, "2f7a120490edf9ec397375e021782fc2cb9759b14c387fe22973894ac8b5caf3"), looks := true }, kinds := [], alts := [], laidByText := true, laidKinds := [.data, .data, .data, .data, .pinned, .pinned], laidTests := true, laidLooks := .later }
def FnTextjoinCardSaid : Prop := Claim7.holds Tryz.pinned (.plain (OpenSpec.ofChange fnTextjoinSpec)) fnTextjoinCard

/-- THE TIED CARD OF 'laws.FnMunit'. -/
def fnMunitCard : Claim7 := { stood := { row := fnMunitRow, standIns := [], harness := (true, "2f7a120490edf9ec397375e021782fc2cb9759b14c387fe22973894ac8b5caf3"), looks := true }, kinds := [], alts := [], laidByText := true, laidKinds := [.data, .data, .widerDeep, .widerDeep, .data, .data, .data, .data, .data, .sentinel, .sentinel, .pinned, .pinned], laidTests := true, laidLooks := .later }
def FnMunitCardSaid : Prop := Claim7.holds Tryz.pinned (.plain (OpenSpec.ofChange fnMunitSpec)) fnMunitCard

/-- THE TIED CARD OF 'laws.FnCount'. -/
def fnCountCard : Claim7 := { stood := { row := fnCountRow, standIns := [], harness := (true, "2f7a120490edf9ec397375e021782fc2cb9759b14c387fe22973894ac8b5caf3"), looks := true }, kinds := [], alts := [], laidByText := true, laidKinds := [.data, .data, .widerDeep, .widerDeep, .data, .data, .data, .data, .data, .sentinel, .sentinel, .pinned, .pinned], laidTests := true, laidLooks := .later }
def FnCountCardSaid : Prop := Claim7.holds Tryz.pinned (.plain (OpenSpec.ofChange fnCountSpec)) fnCountCard

/-- THE TIED CARD OF 'laws.FnIslogical'. -/
def fnIslogicalCard : Claim7 := { stood := { row := fnIslogicalRow, standIns := [], harness := (true, "2f7a120490edf9ec397375e021782fc2cb9759b14c387fe22973894ac8b5caf3"), looks := true }, kinds := [], alts := [], laidByText := true, laidKinds := [.data, .data, .data, .data, .data, .data, .data, .pinned, .pinned, .pinned, .pinned], laidTests := true, laidLooks := .later }
def FnIslogicalCardSaid : Prop := Claim7.holds Tryz.pinned (.plain (OpenSpec.ofChange fnIslogicalSpec)) fnIslogicalCard

/-- THE TIED CARD OF 'laws.FnChoose'. -/
def fnChooseCard : Claim7 := { stood := { row := fnChooseRow, standIns := [], harness := (true, "2f7a120490edf9ec397375e021782fc2cb9759b14c387fe22973894ac8b5caf3"), looks := true }, kinds := [], alts := [], laidByText := true, laidKinds := [.data, .data, .data, .data, .sentinel, .sentinel, .pinned, .pinned], laidTests := true, laidLooks := .later }
def FnChooseCardSaid : Prop := Claim7.holds Tryz.pinned (.plain (OpenSpec.ofChange fnChooseSpec)) fnChooseCard

/-- THE TIED CARD OF 'laws.FnUnique'. -/
def fnUniqueCard : Claim7 := { stood := { row := fnUniqueRow, standIns := [], harness := (true, "2f7a120490edf9ec397375e021782fc2cb9759b14c387fe22973894ac8b5caf3"), looks := true }, kinds := [], alts := [], laidByText := true, laidKinds := [.data, .data, .data, .data, .sentinel, .sentinel, .pinned, .pinned], laidTests := true, laidLooks := .later }
def FnUniqueCardSaid : Prop := Claim7.holds Tryz.pinned (.plain (OpenSpec.ofChange fnUniqueSpec)) fnUniqueCard

/-- THE SECOND FORM's CARD OF 'laws.FnTextjoin'. -/
def fnTextjoinUptoCard : Claim7 := { stood := { row := fnTextjoinUptoRow, standIns := [], harness := (true, "2f7a120490edf9ec397375e021782fc2cb9759b14c387fe22973894ac8b5caf3"), looks := true }, kinds := [], alts := [], laidByText := true, laidKinds := [.data, .data, .data, .data, .pinned, .pinned], laidTests := true, laidLooks := .later }
def FnTextjoinUptoCardSaid : Prop := Claim7.holds Tryz.pinned (.plain (OpenSpec.upto fnTextjoinSpec)) fnTextjoinUptoCard

/-- THE SECOND FORM's CARD OF 'laws.FnMunit'. -/
def fnMunitUptoCard : Claim7 := { stood := { row := fnMunitUptoRow, standIns := [], harness := (true, "2f7a120490edf9ec397375e021782fc2cb9759b14c387fe22973894ac8b5caf3"), looks := true }, kinds := [], alts := [], laidByText := true, laidKinds := [.data, .data, .widerDeep, .widerDeep, .data, .data, .data, .data, .data, .sentinel, .sentinel, .pinned, .pinned], laidTests := true, laidLooks := .later }
def FnMunitUptoCardSaid : Prop := Claim7.holds Tryz.pinned (.plain (OpenSpec.upto fnMunitSpec)) fnMunitUptoCard

/-- THE SECOND FORM's CARD OF 'laws.FnCount'. -/
def fnCountUptoCard : Claim7 := { stood := { row := fnCountUptoRow, standIns := [], harness := (true, "2f7a120490edf9ec397375e021782fc2cb9759b14c387fe22973894ac8b5caf3"), looks := true }, kinds := [], alts := [], laidByText := true, laidKinds := [.data, .data, .widerDeep, .widerDeep, .data, .data, .data, .data, .data, .sentinel, .sentinel, .pinned, .pinned], laidTests := true, laidLooks := .later }
def FnCountUptoCardSaid : Prop := Claim7.holds Tryz.pinned (.plain (OpenSpec.upto fnCountSpec)) fnCountUptoCard

/-- THE SECOND FORM's CARD OF 'laws.FnIslogical'. -/
def fnIslogicalUptoCard : Claim7 := { stood := { row := fnIslogicalUptoRow, standIns := [], harness := (true, "2f7a120490edf9ec397375e021782fc2cb9759b14c387fe22973894ac8b5caf3"), looks := true }, kinds := [], alts := [], laidByText := true, laidKinds := [.data, .data, .data, .data, .data, .data, .data, .pinned, .pinned, .pinned, .pinned], laidTests := true, laidLooks := .later }
def FnIslogicalUptoCardSaid : Prop := Claim7.holds Tryz.pinned (.plain (OpenSpec.upto fnIslogicalSpec)) fnIslogicalUptoCard

/-- THE SECOND FORM's CARD OF 'laws.FnChoose'. -/
def fnChooseUptoCard : Claim7 := { stood := { row := fnChooseUptoRow, standIns := [], harness := (true, "2f7a120490edf9ec397375e021782fc2cb9759b14c387fe22973894ac8b5caf3"), looks := true }, kinds := [], alts := [], laidByText := true, laidKinds := [.data, .data, .data, .data, .sentinel, .sentinel, .pinned, .pinned], laidTests := true, laidLooks := .later }
def FnChooseUptoCardSaid : Prop := Claim7.holds Tryz.pinned (.plain (OpenSpec.upto fnChooseSpec)) fnChooseUptoCard

/-- THE SECOND FORM's CARD OF 'laws.FnUnique'. -/
def fnUniqueUptoCard : Claim7 := { stood := { row := fnUniqueUptoRow, standIns := [], harness := (true, "2f7a120490edf9ec397375e021782fc2cb9759b14c387fe22973894ac8b5caf3"), looks := true }, kinds := [], alts := [], laidByText := true, laidKinds := [.data, .data, .data, .data, .sentinel, .sentinel, .pinned, .pinned], laidTests := true, laidLooks := .later }
def FnUniqueUptoCardSaid : Prop := Claim7.holds Tryz.pinned (.plain (OpenSpec.upto fnUniqueSpec)) fnUniqueUptoCard
end Rows
end Go.Proofs.YtpjckdhgefbonaaGreatDoor
