/-
  DERIVED. GIVEN WITH THE SEED: THE CARDS: each row of YtjobmjfdlkjaoaaGreatDoorRows.lean that lists a variable, with what it lists TIED to the program's text (the seventh form; the later family's looks); each row that meets fmt, with fmt's text TOLD by the authors' own Lean function (tested against real Go, not proved from fmt's source: count such statements apart). THE CARD IS WHAT COUNTS. Prove the row's statement (the work); the ties are given (YtjobmjfdlkjaoaaGreatDoorTie.lean); close each card by the builder's one call (the guide's Derived/Test/ToyasCard.lean, 'card_holds'). Laid BY PROGRAM, IN A SANDBOX (cutbox-door.mjs). By AI agents, Wed Nov 11 2026. No macro, syntax, notation, axiom, sorry.
-/
import Derived.Test.YtjobmjfdlkjaoaaGreatDoorRows
import GoSem.ClaimSeven
namespace Go.Proofs.YtjobmjfdlkjaoaaGreatDoor
namespace Rows

/-- THE TIED CARD OF 'laws.FnAbs'. -/
def fnAbsCard : Claim7 := { stood := { row := fnAbsRow, standIns := [], harness := (true, "b31ba4de9cd72601eb1195575381fa83d2169827c2f63fc2269c639d34a695cf"), looks := true }, kinds := [], alts := [], laidByText := true, laidKinds := [.data, .data, .widerDeep, .widerDeep, .data, .data, .data, .data, .data, .data, .sentinel, .sentinel, .sentinel, .sentinel, .pinned, .pinned, .pinned], laidTests := true, laidLooks := .later }
def FnAbsCardSaid : Prop := Claim7.holds Tryz.pinned (.plain (OpenSpec.ofChange fnAbsSpec)) fnAbsCard

/-- THE TIED CARD OF 'laws.FnEven'. -/
def fnEvenCard : Claim7 := { stood := { row := fnEvenRow, standIns := [], harness := (true, "b31ba4de9cd72601eb1195575381fa83d2169827c2f63fc2269c639d34a695cf"), looks := true }, kinds := [], alts := [], laidByText := true, laidKinds := [.data, .data, .widerDeep, .widerDeep, .data, .data, .data, .data, .data, .sentinel, .sentinel, .pinned, .pinned], laidTests := true, laidLooks := .later }
def FnEvenCardSaid : Prop := Claim7.holds Tryz.pinned (.plain (OpenSpec.ofChange fnEvenSpec)) fnEvenCard

/-- THE TIED CARD OF 'laws.FnMod'. -/
def fnModCard : Claim7 := { stood := { row := fnModRow, standIns := [], harness := (true, "b31ba4de9cd72601eb1195575381fa83d2169827c2f63fc2269c639d34a695cf"), looks := true }, kinds := [], alts := [], laidByText := true, laidKinds := [.data, .data, .widerDeep, .widerDeep, .data, .data, .data, .data, .data, .sentinel, .sentinel, .pinned, .pinned], laidTests := true, laidLooks := .later }
def FnModCardSaid : Prop := Claim7.holds Tryz.pinned (.plain (OpenSpec.ofChange fnModSpec)) fnModCard

/-- THE TIED CARD OF 'laws.FnBitand'. -/
def fnBitandCard : Claim7 := { stood := { row := fnBitandRow, standIns := [], harness := (true, "b31ba4de9cd72601eb1195575381fa83d2169827c2f63fc2269c639d34a695cf"), looks := true }, kinds := [], alts := [], laidByText := true, laidKinds := [.data, .data, .widerDeep, .widerDeep, .data, .data, .data, .data, .data, .sentinel, .sentinel, .pinned, .pinned], laidTests := true, laidLooks := .later }
def FnBitandCardSaid : Prop := Claim7.holds Tryz.pinned (.plain (OpenSpec.ofChange fnBitandSpec)) fnBitandCard

/-- THE TIED CARD OF 'laws.FnBitlshift'. -/
def fnBitlshiftCard : Claim7 := { stood := { row := fnBitlshiftRow, standIns := [], harness := (true, "b31ba4de9cd72601eb1195575381fa83d2169827c2f63fc2269c639d34a695cf"), looks := true }, kinds := [], alts := [], laidByText := true, laidKinds := [.data, .data, .widerDeep, .widerDeep, .data, .data, .data, .data, .data, .sentinel, .sentinel, .pinned, .pinned], laidTests := true, laidLooks := .later }
def FnBitlshiftCardSaid : Prop := Claim7.holds Tryz.pinned (.plain (OpenSpec.ofChange fnBitlshiftSpec)) fnBitlshiftCard

/-- THE TIED CARD OF 'laws.FnLcm'. -/
def fnLcmCard : Claim7 := { stood := { row := fnLcmRow, standIns := [], harness := (true, "b31ba4de9cd72601eb1195575381fa83d2169827c2f63fc2269c639d34a695cf"), looks := true }, kinds := [], alts := [], laidByText := true, laidKinds := [.data, .data, .widerDeep, .widerDeep, .data, .data, .data, .data, .data, .sentinel, .sentinel, .pinned, .pinned], laidTests := true, laidLooks := .later }
def FnLcmCardSaid : Prop := Claim7.holds Tryz.pinned (.plain (OpenSpec.ofChange fnLcmSpec)) fnLcmCard

/-- THE SECOND FORM's CARD OF 'laws.FnAbs'. -/
def fnAbsUptoCard : Claim7 := { stood := { row := fnAbsUptoRow, standIns := [], harness := (true, "b31ba4de9cd72601eb1195575381fa83d2169827c2f63fc2269c639d34a695cf"), looks := true }, kinds := [], alts := [], laidByText := true, laidKinds := [.data, .data, .widerDeep, .widerDeep, .data, .data, .data, .data, .data, .data, .sentinel, .sentinel, .sentinel, .sentinel, .pinned, .pinned, .pinned], laidTests := true, laidLooks := .later }
def FnAbsUptoCardSaid : Prop := Claim7.holds Tryz.pinned (.plain (OpenSpec.upto fnAbsSpec)) fnAbsUptoCard

/-- THE SECOND FORM's CARD OF 'laws.FnEven'. -/
def fnEvenUptoCard : Claim7 := { stood := { row := fnEvenUptoRow, standIns := [], harness := (true, "b31ba4de9cd72601eb1195575381fa83d2169827c2f63fc2269c639d34a695cf"), looks := true }, kinds := [], alts := [], laidByText := true, laidKinds := [.data, .data, .widerDeep, .widerDeep, .data, .data, .data, .data, .data, .sentinel, .sentinel, .pinned, .pinned], laidTests := true, laidLooks := .later }
def FnEvenUptoCardSaid : Prop := Claim7.holds Tryz.pinned (.plain (OpenSpec.upto fnEvenSpec)) fnEvenUptoCard

/-- THE SECOND FORM's CARD OF 'laws.FnMod'. -/
def fnModUptoCard : Claim7 := { stood := { row := fnModUptoRow, standIns := [], harness := (true, "b31ba4de9cd72601eb1195575381fa83d2169827c2f63fc2269c639d34a695cf"), looks := true }, kinds := [], alts := [], laidByText := true, laidKinds := [.data, .data, .widerDeep, .widerDeep, .data, .data, .data, .data, .data, .sentinel, .sentinel, .pinned, .pinned], laidTests := true, laidLooks := .later }
def FnModUptoCardSaid : Prop := Claim7.holds Tryz.pinned (.plain (OpenSpec.upto fnModSpec)) fnModUptoCard

/-- THE SECOND FORM's CARD OF 'laws.FnBitand'. -/
def fnBitandUptoCard : Claim7 := { stood := { row := fnBitandUptoRow, standIns := [], harness := (true, "b31ba4de9cd72601eb1195575381fa83d2169827c2f63fc2269c639d34a695cf"), looks := true }, kinds := [], alts := [], laidByText := true, laidKinds := [.data, .data, .widerDeep, .widerDeep, .data, .data, .data, .data, .data, .sentinel, .sentinel, .pinned, .pinned], laidTests := true, laidLooks := .later }
def FnBitandUptoCardSaid : Prop := Claim7.holds Tryz.pinned (.plain (OpenSpec.upto fnBitandSpec)) fnBitandUptoCard

/-- THE SECOND FORM's CARD OF 'laws.FnBitlshift'. -/
def fnBitlshiftUptoCard : Claim7 := { stood := { row := fnBitlshiftUptoRow, standIns := [], harness := (true, "b31ba4de9cd72601eb1195575381fa83d2169827c2f63fc2269c639d34a695cf"), looks := true }, kinds := [], alts := [], laidByText := true, laidKinds := [.data, .data, .widerDeep, .widerDeep, .data, .data, .data, .data, .data, .sentinel, .sentinel, .pinned, .pinned], laidTests := true, laidLooks := .later }
def FnBitlshiftUptoCardSaid : Prop := Claim7.holds Tryz.pinned (.plain (OpenSpec.upto fnBitlshiftSpec)) fnBitlshiftUptoCard

/-- THE SECOND FORM's CARD OF 'laws.FnLcm'. -/
def fnLcmUptoCard : Claim7 := { stood := { row := fnLcmUptoRow, standIns := [], harness := (true, "b31ba4de9cd72601eb1195575381fa83d2169827c2f63fc2269c639d34a695cf"), looks := true }, kinds := [], alts := [], laidByText := true, laidKinds := [.data, .data, .widerDeep, .widerDeep, .data, .data, .data, .data, .data, .sentinel, .sentinel, .pinned, .pinned], laidTests := true, laidLooks := .later }
def FnLcmUptoCardSaid : Prop := Claim7.holds Tryz.pinned (.plain (OpenSpec.upto fnLcmSpec)) fnLcmUptoCard
end Rows
end Go.Proofs.YtjobmjfdlkjaoaaGreatDoor
