/-
  DERIVED. GIVEN WITH THE SEED: THE CARDS: each row of YtfhppajnnbbcjaaGreatDoorRows.lean that lists a variable, with what it lists TIED to the program's text (the seventh form; the later family's looks); each row that meets fmt, with fmt's text TOLD by the authors' own Lean function (tested against real Go, not proved from fmt's source: count such statements apart). THE CARD IS WHAT COUNTS. Prove the row's statement (the work); the ties are given (YtfhppajnnbbcjaaGreatDoorTie.lean); close each card by the builder's one call (the guide's Derived/Test/ToyasCard.lean, 'card_holds'). Laid BY PROGRAM, IN A SANDBOX (cutbox-door.mjs). By AI agents, Wed Nov 11 2026. No macro, syntax, notation, axiom, sorry.
-/
import Derived.Test.YtfhppajnnbbcjaaGreatDoorRows
import GoSem.ClaimSeven
namespace Go.Proofs.YtfhppajnnbbcjaaGreatDoor
namespace Rows

/-- THE TIED CARD OF 'laws.FnIndexOf'. -/
def fnIndexOfCard : Claim7 := { stood := { row := fnIndexOfRow, standIns := [], harness := (true, "064a0895d53e575a78d22afe9a8786a60ce6383f45bc19fc78439605e0cbe354"), looks := true }, kinds := [], alts := [], laidByText := true, laidKinds := [.data, .data, .widerDeep, .widerDeep, .data, .data, .data, .data, .data, .data, .sentinel, .sentinel, .pinned, .pinned, .pinned], laidTests := true, laidLooks := .later }
def FnIndexOfCardSaid : Prop := Claim7.holds Tryz.pinned (.plain (OpenSpec.ofChange fnIndexOfSpec)) fnIndexOfCard

/-- THE TIED CARD OF 'laws.FnMul'. -/
def fnMulCard : Claim7 := { stood := { row := fnMulRow, standIns := [], harness := (true, "064a0895d53e575a78d22afe9a8786a60ce6383f45bc19fc78439605e0cbe354"), looks := true }, kinds := [], alts := [], laidByText := true, laidKinds := [.data, .data, .widerDeep, .widerDeep, .data, .data, .data, .data, .data, .data, .sentinel, .sentinel, .pinned, .pinned, .pinned], laidTests := true, laidLooks := .later }
def FnMulCardSaid : Prop := Claim7.holds Tryz.pinned (.plain (OpenSpec.ofChange fnMulSpec)) fnMulCard

/-- THE TIED CARD OF 'laws.FnGetSteps'. -/
def fnGetStepsCard : Claim7 := { stood := { row := fnGetStepsRow, standIns := [], harness := (true, "064a0895d53e575a78d22afe9a8786a60ce6383f45bc19fc78439605e0cbe354"), looks := true }, kinds := [], alts := [], laidByText := true, laidKinds := [.data, .data, .widerDeep, .widerDeep, .data, .data, .data, .data, .data, .data, .sentinel, .sentinel, .pinned, .pinned, .pinned], laidTests := true, laidLooks := .later }
def FnGetStepsCardSaid : Prop := Claim7.holds Tryz.pinned (.plain (OpenSpec.ofChange fnGetStepsSpec)) fnGetStepsCard

/-- THE TIED CARD OF 'laws.FnSearch'. -/
def fnSearchCard : Claim7 := { stood := { row := fnSearchRow, standIns := [], harness := (true, "064a0895d53e575a78d22afe9a8786a60ce6383f45bc19fc78439605e0cbe354"), looks := true }, kinds := [], alts := [], laidByText := true, laidKinds := [.data, .data, .widerDeep, .widerDeep, .data, .data, .data, .data, .data, .data, .sentinel, .sentinel, .pinned, .pinned, .pinned], laidTests := true, laidLooks := .later }
def FnSearchCardSaid : Prop := Claim7.holds Tryz.pinned (.plain (OpenSpec.ofChange fnSearchSpec)) fnSearchCard

/-- THE TIED CARD OF 'laws.FnUniqueUnion'. -/
def fnUniqueUnionCard : Claim7 := { stood := { row := fnUniqueUnionRow, standIns := [], harness := (true, "064a0895d53e575a78d22afe9a8786a60ce6383f45bc19fc78439605e0cbe354"), looks := true }, kinds := [], alts := [], laidByText := true, laidKinds := [.data, .data, .widerDeep, .widerDeep, .data, .data, .data, .data, .data, .data, .sentinel, .sentinel, .pinned, .pinned, .pinned], laidTests := true, laidLooks := .later }
def FnUniqueUnionCardSaid : Prop := Claim7.holds Tryz.pinned (.plain (OpenSpec.ofChange fnUniqueUnionSpec)) fnUniqueUnionCard

/-- THE SECOND FORM's CARD OF 'laws.FnIndexOf'. -/
def fnIndexOfUptoCard : Claim7 := { stood := { row := fnIndexOfUptoRow, standIns := [], harness := (true, "064a0895d53e575a78d22afe9a8786a60ce6383f45bc19fc78439605e0cbe354"), looks := true }, kinds := [], alts := [], laidByText := true, laidKinds := [.data, .data, .widerDeep, .widerDeep, .data, .data, .data, .data, .data, .data, .sentinel, .sentinel, .pinned, .pinned, .pinned], laidTests := true, laidLooks := .later }
def FnIndexOfUptoCardSaid : Prop := Claim7.holds Tryz.pinned (.plain (OpenSpec.upto fnIndexOfSpec)) fnIndexOfUptoCard

/-- THE SECOND FORM's CARD OF 'laws.FnMul'. -/
def fnMulUptoCard : Claim7 := { stood := { row := fnMulUptoRow, standIns := [], harness := (true, "064a0895d53e575a78d22afe9a8786a60ce6383f45bc19fc78439605e0cbe354"), looks := true }, kinds := [], alts := [], laidByText := true, laidKinds := [.data, .data, .widerDeep, .widerDeep, .data, .data, .data, .data, .data, .data, .sentinel, .sentinel, .pinned, .pinned, .pinned], laidTests := true, laidLooks := .later }
def FnMulUptoCardSaid : Prop := Claim7.holds Tryz.pinned (.plain (OpenSpec.upto fnMulSpec)) fnMulUptoCard

/-- THE SECOND FORM's CARD OF 'laws.FnGetSteps'. -/
def fnGetStepsUptoCard : Claim7 := { stood := { row := fnGetStepsUptoRow, standIns := [], harness := (true, "064a0895d53e575a78d22afe9a8786a60ce6383f45bc19fc78439605e0cbe354"), looks := true }, kinds := [], alts := [], laidByText := true, laidKinds := [.data, .data, .widerDeep, .widerDeep, .data, .data, .data, .data, .data, .data, .sentinel, .sentinel, .pinned, .pinned, .pinned], laidTests := true, laidLooks := .later }
def FnGetStepsUptoCardSaid : Prop := Claim7.holds Tryz.pinned (.plain (OpenSpec.upto fnGetStepsSpec)) fnGetStepsUptoCard

/-- THE SECOND FORM's CARD OF 'laws.FnSearch'. -/
def fnSearchUptoCard : Claim7 := { stood := { row := fnSearchUptoRow, standIns := [], harness := (true, "064a0895d53e575a78d22afe9a8786a60ce6383f45bc19fc78439605e0cbe354"), looks := true }, kinds := [], alts := [], laidByText := true, laidKinds := [.data, .data, .widerDeep, .widerDeep, .data, .data, .data, .data, .data, .data, .sentinel, .sentinel, .pinned, .pinned, .pinned], laidTests := true, laidLooks := .later }
def FnSearchUptoCardSaid : Prop := Claim7.holds Tryz.pinned (.plain (OpenSpec.upto fnSearchSpec)) fnSearchUptoCard

/-- THE SECOND FORM's CARD OF 'laws.FnUniqueUnion'. -/
def fnUniqueUnionUptoCard : Claim7 := { stood := { row := fnUniqueUnionUptoRow, standIns := [], harness := (true, "064a0895d53e575a78d22afe9a8786a60ce6383f45bc19fc78439605e0cbe354"), looks := true }, kinds := [], alts := [], laidByText := true, laidKinds := [.data, .data, .widerDeep, .widerDeep, .data, .data, .data, .data, .data, .data, .sentinel, .sentinel, .pinned, .pinned, .pinned], laidTests := true, laidLooks := .later }
def FnUniqueUnionUptoCardSaid : Prop := Claim7.holds Tryz.pinned (.plain (OpenSpec.upto fnUniqueUnionSpec)) fnUniqueUnionUptoCard
end Rows
end Go.Proofs.YtfhppajnnbbcjaaGreatDoor
