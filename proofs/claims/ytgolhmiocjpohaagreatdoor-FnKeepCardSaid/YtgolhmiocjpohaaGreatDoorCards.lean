/-
  DERIVED. GIVEN WITH THE SEED: THE CARDS: each row of YtgolhmiocjpohaaGreatDoorRows.lean that lists a variable, with what it lists TIED to the program's text (the seventh form; the later family's looks); each row that meets fmt, with fmt's text TOLD by the authors' own Lean function (tested against real Go, not proved from fmt's source: count such statements apart). THE CARD IS WHAT COUNTS. Prove the row's statement (the work); the ties are given (YtgolhmiocjpohaaGreatDoorTie.lean); close each card by the builder's one call (the guide's Derived/Test/ToyasCard.lean, 'card_holds'). Laid BY PROGRAM, IN A SANDBOX (cutbox-door.mjs). By AI agents, Wed Nov 11 2026. No macro, syntax, notation, axiom, sorry.
-/
import Derived.Test.YtgolhmiocjpohaaGreatDoorRows
import GoSem.ClaimSeven
namespace Go.Proofs.YtgolhmiocjpohaaGreatDoor
namespace Rows

/-- THE TIED CARD OF 'laws.FnKeep'. -/
def fnKeepCard : Claim7 := { stood := { row := fnKeepRow, standIns := [], harness := (true, "14662f4f732e9a246aba26b14bd64046498a36d01f692d1d5a8e19484b5f7a75"), looks := true }, kinds := [], alts := [], laidByText := true, laidKinds := [.data, .data, .widerDeep, .widerDeep, .data, .data, .data, .data, .data, .data, .sentinel, .sentinel, .data, .data, .pinned, .pinned, .pinned, .pinned], laidTests := true, laidLooks := .later }
def FnKeepCardSaid : Prop := Claim7.holds Tryz.pinned (.plain (OpenSpec.ofChange fnKeepSpec)) fnKeepCard

/-- THE TIED CARD OF 'laws.FnOrderAgain'. -/
def fnOrderAgainCard : Claim7 := { stood := { row := fnOrderAgainRow, standIns := [], harness := (true, "14662f4f732e9a246aba26b14bd64046498a36d01f692d1d5a8e19484b5f7a75"), looks := true }, kinds := [], alts := [], laidByText := true, laidKinds := [.data, .data, .widerDeep, .widerDeep, .data, .data, .data, .data, .data, .data, .sentinel, .sentinel, .pinned, .pinned, .pinned, .pinned], laidTests := true, laidLooks := .later }
def FnOrderAgainCardSaid : Prop := Claim7.holds Tryz.pinned (.plain (OpenSpec.ofChange fnOrderAgainSpec)) fnOrderAgainCard

/-- THE SECOND FORM's CARD OF 'laws.FnKeep'. -/
def fnKeepUptoCard : Claim7 := { stood := { row := fnKeepUptoRow, standIns := [], harness := (true, "14662f4f732e9a246aba26b14bd64046498a36d01f692d1d5a8e19484b5f7a75"), looks := true }, kinds := [], alts := [], laidByText := true, laidKinds := [.data, .data, .widerDeep, .widerDeep, .data, .data, .data, .data, .data, .data, .sentinel, .sentinel, .data, .data, .pinned, .pinned, .pinned, .pinned], laidTests := true, laidLooks := .later }
def FnKeepUptoCardSaid : Prop := Claim7.holds Tryz.pinned (.plain (OpenSpec.upto fnKeepSpec)) fnKeepUptoCard

/-- THE SECOND FORM's CARD OF 'laws.FnOrderAgain'. -/
def fnOrderAgainUptoCard : Claim7 := { stood := { row := fnOrderAgainUptoRow, standIns := [], harness := (true, "14662f4f732e9a246aba26b14bd64046498a36d01f692d1d5a8e19484b5f7a75"), looks := true }, kinds := [], alts := [], laidByText := true, laidKinds := [.data, .data, .widerDeep, .widerDeep, .data, .data, .data, .data, .data, .data, .sentinel, .sentinel, .pinned, .pinned, .pinned, .pinned], laidTests := true, laidLooks := .later }
def FnOrderAgainUptoCardSaid : Prop := Claim7.holds Tryz.pinned (.plain (OpenSpec.upto fnOrderAgainSpec)) fnOrderAgainUptoCard
end Rows
end Go.Proofs.YtgolhmiocjpohaaGreatDoor
