/-
  DERIVED. GIVEN WITH THE SEED: THE CARDS: each row of YtkanmkcojlefbaaGreatDoorRows.lean that lists a variable, with what it lists TIED to the program's text (the seventh form; the later family's looks); each row that meets fmt, with fmt's text TOLD by the authors' own Lean function (tested against real Go, not proved from fmt's source: count such statements apart). THE CARD IS WHAT COUNTS. Prove the row's statement (the work); the ties are given (YtkanmkcojlefbaaGreatDoorTie.lean); close each card by the builder's one call (the guide's Derived/Test/ToyasCard.lean, 'card_holds'). Laid BY PROGRAM, IN A SANDBOX (cutbox-door.mjs). By AI agents, Wed Nov 11 2026. No macro, syntax, notation, axiom, sorry.
-/
import Derived.Test.YtkanmkcojlefbaaGreatDoorRows
import GoSem.ClaimSeven
namespace Go.Proofs.YtkanmkcojlefbaaGreatDoor
namespace Rows

/-- THE TIED CARD OF 'laws.FnHeadIsRead'. -/
def fnHeadIsReadCard : Claim7 := { stood := { row := fnHeadIsReadRow, standIns := [], harness := (true, "942725aa878bdb98aff0f6c6967a538ec77163194655f44859c483aac3ed8be5"), looks := true }, kinds := [], alts := [], laidByText := true, laidKinds := [.data, .data, .data, .data, .sentinel, .sentinel, .sentinel, .sentinel, .sentinel, .sentinel, .sentinel, .sentinel, .sentinel, .sentinel, .sentinel, .sentinel, .mapped, .pinned], laidTests := true, laidLooks := .later }
def FnHeadIsReadCardSaid : Prop := Claim7.holds Tryz.pinned (.plain (OpenSpec.ofChange fnHeadIsReadSpec)) fnHeadIsReadCard

/-- THE TIED CARD OF 'laws.FnEmpty'. -/
def fnEmptyCard : Claim7 := { stood := { row := fnEmptyRow, standIns := [], harness := (true, "942725aa878bdb98aff0f6c6967a538ec77163194655f44859c483aac3ed8be5"), looks := true }, kinds := [], alts := [], laidByText := true, laidKinds := [.data, .data, .data, .data, .sentinel, .sentinel, .sentinel, .sentinel, .sentinel, .sentinel, .sentinel, .sentinel, .sentinel, .sentinel, .sentinel, .sentinel, .mapped, .pinned], laidTests := true, laidLooks := .later }
def FnEmptyCardSaid : Prop := Claim7.holds Tryz.pinned (.plain (OpenSpec.ofChange fnEmptySpec)) fnEmptyCard

/-- THE TIED CARD OF 'laws.FnWrittenIsRead'. -/
def fnWrittenIsReadCard : Claim7 := { stood := { row := fnWrittenIsReadRow, standIns := [], harness := (true, "942725aa878bdb98aff0f6c6967a538ec77163194655f44859c483aac3ed8be5"), looks := true }, kinds := [], alts := [], laidByText := true, laidKinds := [.data, .data, .data, .data, .sentinel, .sentinel, .sentinel, .sentinel, .sentinel, .sentinel, .sentinel, .sentinel, .sentinel, .sentinel, .sentinel, .sentinel, .mapped, .pinned], laidTests := true, laidLooks := .later }
def FnWrittenIsReadCardSaid : Prop := Claim7.holds Tryz.pinned (.plain (OpenSpec.ofChange fnWrittenIsReadSpec)) fnWrittenIsReadCard

/-- THE TIED CARD OF 'laws.FnFieldsComeFirst'. -/
def fnFieldsComeFirstCard : Claim7 := { stood := { row := fnFieldsComeFirstRow, standIns := [], harness := (true, "942725aa878bdb98aff0f6c6967a538ec77163194655f44859c483aac3ed8be5"), looks := true }, kinds := [], alts := [], laidByText := true, laidKinds := [.data, .data, .data, .data, .sentinel, .sentinel, .sentinel, .sentinel, .sentinel, .sentinel, .sentinel, .sentinel, .sentinel, .sentinel, .sentinel, .sentinel, .mapped, .pinned], laidTests := true, laidLooks := .later }
def FnFieldsComeFirstCardSaid : Prop := Claim7.holds Tryz.pinned (.plain (OpenSpec.ofChange fnFieldsComeFirstSpec)) fnFieldsComeFirstCard

/-- THE SECOND FORM's CARD OF 'laws.FnHeadIsRead'. -/
def fnHeadIsReadUptoCard : Claim7 := { stood := { row := fnHeadIsReadUptoRow, standIns := [], harness := (true, "942725aa878bdb98aff0f6c6967a538ec77163194655f44859c483aac3ed8be5"), looks := true }, kinds := [], alts := [], laidByText := true, laidKinds := [.data, .data, .data, .data, .sentinel, .sentinel, .sentinel, .sentinel, .sentinel, .sentinel, .sentinel, .sentinel, .sentinel, .sentinel, .sentinel, .sentinel, .mapped, .pinned], laidTests := true, laidLooks := .later }
def FnHeadIsReadUptoCardSaid : Prop := Claim7.holds Tryz.pinned (.plain (OpenSpec.upto fnHeadIsReadSpec)) fnHeadIsReadUptoCard

/-- THE SECOND FORM's CARD OF 'laws.FnEmpty'. -/
def fnEmptyUptoCard : Claim7 := { stood := { row := fnEmptyUptoRow, standIns := [], harness := (true, "942725aa878bdb98aff0f6c6967a538ec77163194655f44859c483aac3ed8be5"), looks := true }, kinds := [], alts := [], laidByText := true, laidKinds := [.data, .data, .data, .data, .sentinel, .sentinel, .sentinel, .sentinel, .sentinel, .sentinel, .sentinel, .sentinel, .sentinel, .sentinel, .sentinel, .sentinel, .mapped, .pinned], laidTests := true, laidLooks := .later }
def FnEmptyUptoCardSaid : Prop := Claim7.holds Tryz.pinned (.plain (OpenSpec.upto fnEmptySpec)) fnEmptyUptoCard

/-- THE SECOND FORM's CARD OF 'laws.FnWrittenIsRead'. -/
def fnWrittenIsReadUptoCard : Claim7 := { stood := { row := fnWrittenIsReadUptoRow, standIns := [], harness := (true, "942725aa878bdb98aff0f6c6967a538ec77163194655f44859c483aac3ed8be5"), looks := true }, kinds := [], alts := [], laidByText := true, laidKinds := [.data, .data, .data, .data, .sentinel, .sentinel, .sentinel, .sentinel, .sentinel, .sentinel, .sentinel, .sentinel, .sentinel, .sentinel, .sentinel, .sentinel, .mapped, .pinned], laidTests := true, laidLooks := .later }
def FnWrittenIsReadUptoCardSaid : Prop := Claim7.holds Tryz.pinned (.plain (OpenSpec.upto fnWrittenIsReadSpec)) fnWrittenIsReadUptoCard

/-- THE SECOND FORM's CARD OF 'laws.FnFieldsComeFirst'. -/
def fnFieldsComeFirstUptoCard : Claim7 := { stood := { row := fnFieldsComeFirstUptoRow, standIns := [], harness := (true, "942725aa878bdb98aff0f6c6967a538ec77163194655f44859c483aac3ed8be5"), looks := true }, kinds := [], alts := [], laidByText := true, laidKinds := [.data, .data, .data, .data, .sentinel, .sentinel, .sentinel, .sentinel, .sentinel, .sentinel, .sentinel, .sentinel, .sentinel, .sentinel, .sentinel, .sentinel, .mapped, .pinned], laidTests := true, laidLooks := .later }
def FnFieldsComeFirstUptoCardSaid : Prop := Claim7.holds Tryz.pinned (.plain (OpenSpec.upto fnFieldsComeFirstSpec)) fnFieldsComeFirstUptoCard
end Rows
end Go.Proofs.YtkanmkcojlefbaaGreatDoor
