/-
  DERIVED. GIVEN WITH THE SEED: THE CARDS: each row of YteghibfaiifdoaaGreatDoorRows.lean that lists a variable, with what it lists TIED to the program's text (the seventh form; the later family's looks); each row that meets fmt, with fmt's text TOLD by the authors' own Lean function (tested against real Go, not proved from fmt's source: count such statements apart). THE CARD IS WHAT COUNTS. Prove the row's statement (the work); the ties are given (YteghibfaiifdoaaGreatDoorTie.lean); close each card by the builder's one call (the guide's Derived/Test/ToyasCard.lean, 'card_holds'). Laid BY PROGRAM, IN A SANDBOX (cutbox-door.mjs). By AI agents, Wed Nov 11 2026. No macro, syntax, notation, axiom, sorry.
-/
import Derived.Test.YteghibfaiifdoaaGreatDoorRows
import GoSem.ClaimSeven
namespace Go.Proofs.YteghibfaiifdoaaGreatDoor
namespace Rows

/-- THE TIED CARD OF 'laws.FnLower'. -/
def fnLowerCard : Claim7 := { stood := { row := fnLowerRow, standIns := [], harness := (true, "cbf33d5a0a561227cab4091c297497f8ef6864f184492934bdbdf8cfab579fbf"), looks := true }, kinds := [], alts := [], laidByText := true, laidKinds := [.data, .data, .data, .data, .data, .pinned, .pinned, .pinned, .pinned], laidTests := true, laidLooks := .later }
def FnLowerCardSaid : Prop := Claim7.holds Tryz.pinned (.plain (OpenSpec.ofChange fnLowerSpec)) fnLowerCard

/-- THE TIED CARD OF 'laws.FnReplace'. -/
def fnReplaceCard : Claim7 := { stood := { row := fnReplaceRow, standIns := [], harness := (true, "cbf33d5a0a561227cab4091c297497f8ef6864f184492934bdbdf8cfab579fbf"), looks := true }, kinds := [], alts := [], laidByText := true, laidKinds := [.data, .data, .widerDeep, .widerDeep, .data, .data, .data, .data, .data, .sentinel, .sentinel, .pinned, .pinned], laidTests := true, laidLooks := .later }
def FnReplaceCardSaid : Prop := Claim7.holds Tryz.pinned (.plain (OpenSpec.ofChange fnReplaceSpec)) fnReplaceCard

/-- THE TIED CARD OF 'laws.FnRight'. -/
def fnRightCard : Claim7 := { stood := { row := fnRightRow, standIns := [], harness := (true, "cbf33d5a0a561227cab4091c297497f8ef6864f184492934bdbdf8cfab579fbf"), looks := true }, kinds := [], alts := [], laidByText := true, laidKinds := [.data, .data, .widerDeep, .widerDeep, .data, .data, .data, .data, .data, .sentinel, .sentinel, .pinned, .pinned], laidTests := true, laidLooks := .later }
def FnRightCardSaid : Prop := Claim7.holds Tryz.pinned (.plain (OpenSpec.ofChange fnRightSpec)) fnRightCard

/-- THE TIED CARD OF 'laws.FnIf'. -/
def fnIfCard : Claim7 := { stood := { row := fnIfRow, standIns := [], harness := (true, "cbf33d5a0a561227cab4091c297497f8ef6864f184492934bdbdf8cfab579fbf"), looks := true }, kinds := [], alts := [], laidByText := true, laidKinds := [.data, .data, .widerDeep, .widerDeep, .data, .data, .data, .data, .data, .data, .sentinel, .sentinel, .sentinel, .sentinel, .pinned, .pinned, .pinned], laidTests := true, laidLooks := .later }
def FnIfCardSaid : Prop := Claim7.holds Tryz.pinned (.plain (OpenSpec.ofChange fnIfSpec)) fnIfCard

/-- THE TIED CARD OF 'laws.FnDecimal'. -/
def fnDecimalCard : Claim7 := { stood := { row := fnDecimalRow, standIns := [], harness := (true, "cbf33d5a0a561227cab4091c297497f8ef6864f184492934bdbdf8cfab579fbf"), looks := true }, kinds := [], alts := [], laidByText := true, laidKinds := [.data, .data, .widerDeep, .widerDeep, .data, .data, .data, .data, .data, .sentinel, .sentinel, .pinned, .pinned], laidTests := true, laidLooks := .later }
def FnDecimalCardSaid : Prop := Claim7.holds Tryz.pinned (.plain (OpenSpec.ofChange fnDecimalSpec)) fnDecimalCard

/-- THE SECOND FORM's CARD OF 'laws.FnLower'. -/
def fnLowerUptoCard : Claim7 := { stood := { row := fnLowerUptoRow, standIns := [], harness := (true, "cbf33d5a0a561227cab4091c297497f8ef6864f184492934bdbdf8cfab579fbf"), looks := true }, kinds := [], alts := [], laidByText := true, laidKinds := [.data, .data, .data, .data, .data, .pinned, .pinned, .pinned, .pinned], laidTests := true, laidLooks := .later }
def FnLowerUptoCardSaid : Prop := Claim7.holds Tryz.pinned (.plain (OpenSpec.upto fnLowerSpec)) fnLowerUptoCard

/-- THE SECOND FORM's CARD OF 'laws.FnReplace'. -/
def fnReplaceUptoCard : Claim7 := { stood := { row := fnReplaceUptoRow, standIns := [], harness := (true, "cbf33d5a0a561227cab4091c297497f8ef6864f184492934bdbdf8cfab579fbf"), looks := true }, kinds := [], alts := [], laidByText := true, laidKinds := [.data, .data, .widerDeep, .widerDeep, .data, .data, .data, .data, .data, .sentinel, .sentinel, .pinned, .pinned], laidTests := true, laidLooks := .later }
def FnReplaceUptoCardSaid : Prop := Claim7.holds Tryz.pinned (.plain (OpenSpec.upto fnReplaceSpec)) fnReplaceUptoCard

/-- THE SECOND FORM's CARD OF 'laws.FnRight'. -/
def fnRightUptoCard : Claim7 := { stood := { row := fnRightUptoRow, standIns := [], harness := (true, "cbf33d5a0a561227cab4091c297497f8ef6864f184492934bdbdf8cfab579fbf"), looks := true }, kinds := [], alts := [], laidByText := true, laidKinds := [.data, .data, .widerDeep, .widerDeep, .data, .data, .data, .data, .data, .sentinel, .sentinel, .pinned, .pinned], laidTests := true, laidLooks := .later }
def FnRightUptoCardSaid : Prop := Claim7.holds Tryz.pinned (.plain (OpenSpec.upto fnRightSpec)) fnRightUptoCard

/-- THE SECOND FORM's CARD OF 'laws.FnIf'. -/
def fnIfUptoCard : Claim7 := { stood := { row := fnIfUptoRow, standIns := [], harness := (true, "cbf33d5a0a561227cab4091c297497f8ef6864f184492934bdbdf8cfab579fbf"), looks := true }, kinds := [], alts := [], laidByText := true, laidKinds := [.data, .data, .widerDeep, .widerDeep, .data, .data, .data, .data, .data, .data, .sentinel, .sentinel, .sentinel, .sentinel, .pinned, .pinned, .pinned], laidTests := true, laidLooks := .later }
def FnIfUptoCardSaid : Prop := Claim7.holds Tryz.pinned (.plain (OpenSpec.upto fnIfSpec)) fnIfUptoCard

/-- THE SECOND FORM's CARD OF 'laws.FnDecimal'. -/
def fnDecimalUptoCard : Claim7 := { stood := { row := fnDecimalUptoRow, standIns := [], harness := (true, "cbf33d5a0a561227cab4091c297497f8ef6864f184492934bdbdf8cfab579fbf"), looks := true }, kinds := [], alts := [], laidByText := true, laidKinds := [.data, .data, .widerDeep, .widerDeep, .data, .data, .data, .data, .data, .sentinel, .sentinel, .pinned, .pinned], laidTests := true, laidLooks := .later }
def FnDecimalUptoCardSaid : Prop := Claim7.holds Tryz.pinned (.plain (OpenSpec.upto fnDecimalSpec)) fnDecimalUptoCard
end Rows
end Go.Proofs.YteghibfaiifdoaaGreatDoor
