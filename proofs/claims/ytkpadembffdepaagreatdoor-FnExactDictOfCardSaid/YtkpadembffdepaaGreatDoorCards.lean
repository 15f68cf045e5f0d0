/-
  DERIVED. GIVEN WITH THE SEED: THE CARDS: each row of YtkpadembffdepaaGreatDoorRows.lean that lists a variable, with what it lists TIED to the program's text (the seventh form; the later family's looks); each row that meets fmt, with fmt's text TOLD by the authors' own Lean function (tested against real Go, not proved from fmt's source: count such statements apart). THE CARD IS WHAT COUNTS. Prove the row's statement (the work); the ties are given (YtkpadembffdepaaGreatDoorTie.lean); close each card by the builder's one call (the guide's Derived/Test/ToyasCard.lean, 'card_holds'). Laid BY PROGRAM, IN A SANDBOX (cutbox-door.mjs). By AI agents, Wed Nov 11 2026. No macro, syntax, notation, axiom, sorry.
-/
import Derived.Test.YtkpadembffdepaaGreatDoorRows
import GoSem.ClaimSeven
namespace Go.Proofs.YtkpadembffdepaaGreatDoor
namespace Rows

/-- THE TIED CARD OF 'laws.FnBadRun'. -/
def fnBadRunCard : Claim7 := { stood := { row := fnBadRunRow, standIns := [], harness := (true, "e598932ee7586a1a968b35f427bb6c6bc7727e60a97debca7f85d21da2f13ea2"), looks := true }, kinds := [], alts := [], laidByText := true, laidKinds := [.handle, .sentinel, .sentinel, .sentinel, .data], laidTests := true, laidLooks := .later }
def FnBadRunCardSaid : Prop := Claim7.holds Tryz.pinned (.plain (OpenSpec.ofChange fnBadRunSpec)) fnBadRunCard

/-- THE TIED CARD OF 'laws.FnExactDictOf'. -/
def fnExactDictOfCard : Claim7 := { stood := { row := fnExactDictOfRow, standIns := [], harness := (true, "e598932ee7586a1a968b35f427bb6c6bc7727e60a97debca7f85d21da2f13ea2"), looks := true }, kinds := [], alts := [], laidByText := true, laidKinds := [.handle, .sentinel, .sentinel, .sentinel, .data], laidTests := true, laidLooks := .later }
def FnExactDictOfCardSaid : Prop := Claim7.holds Tryz.pinned (.plain (OpenSpec.ofChange fnExactDictOfSpec)) fnExactDictOfCard

/-- THE TIED CARD OF 'laws.FnExactDynamic'. -/
def fnExactDynamicCard : Claim7 := { stood := { row := fnExactDynamicRow, standIns := [], harness := (true, "e598932ee7586a1a968b35f427bb6c6bc7727e60a97debca7f85d21da2f13ea2"), looks := true }, kinds := [], alts := [], laidByText := true, laidKinds := [.handle, .sentinel, .sentinel, .sentinel, .data], laidTests := true, laidLooks := .later }
def FnExactDynamicCardSaid : Prop := Claim7.holds Tryz.pinned (.plain (OpenSpec.ofChange fnExactDynamicSpec)) fnExactDynamicCard

/-- THE TIED CARD OF 'laws.FnExactFar'. -/
def fnExactFarCard : Claim7 := { stood := { row := fnExactFarRow, standIns := [], harness := (true, "e598932ee7586a1a968b35f427bb6c6bc7727e60a97debca7f85d21da2f13ea2"), looks := true }, kinds := [], alts := [], laidByText := true, laidKinds := [.handle, .sentinel, .sentinel, .sentinel, .data], laidTests := true, laidLooks := .later }
def FnExactFarCardSaid : Prop := Claim7.holds Tryz.pinned (.plain (OpenSpec.ofChange fnExactFarSpec)) fnExactFarCard

/-- THE TIED CARD OF 'laws.FnExactFixed'. -/
def fnExactFixedCard : Claim7 := { stood := { row := fnExactFixedRow, standIns := [], harness := (true, "e598932ee7586a1a968b35f427bb6c6bc7727e60a97debca7f85d21da2f13ea2"), looks := true }, kinds := [], alts := [], laidByText := true, laidKinds := [.handle, .sentinel, .sentinel, .sentinel, .data], laidTests := true, laidLooks := .later }
def FnExactFixedCardSaid : Prop := Claim7.holds Tryz.pinned (.plain (OpenSpec.ofChange fnExactFixedSpec)) fnExactFixedCard

/-- THE TIED CARD OF 'laws.FnExactMixed'. -/
def fnExactMixedCard : Claim7 := { stood := { row := fnExactMixedRow, standIns := [], harness := (true, "e598932ee7586a1a968b35f427bb6c6bc7727e60a97debca7f85d21da2f13ea2"), looks := true }, kinds := [], alts := [], laidByText := true, laidKinds := [.handle, .sentinel, .sentinel, .sentinel, .data], laidTests := true, laidLooks := .later }
def FnExactMixedCardSaid : Prop := Claim7.holds Tryz.pinned (.plain (OpenSpec.ofChange fnExactMixedSpec)) fnExactMixedCard

/-- THE TIED CARD OF 'laws.FnExactSpare'. -/
def fnExactSpareCard : Claim7 := { stood := { row := fnExactSpareRow, standIns := [], harness := (true, "e598932ee7586a1a968b35f427bb6c6bc7727e60a97debca7f85d21da2f13ea2"), looks := true }, kinds := [], alts := [], laidByText := true, laidKinds := [.handle, .sentinel, .sentinel, .sentinel, .data], laidTests := true, laidLooks := .later }
def FnExactSpareCardSaid : Prop := Claim7.holds Tryz.pinned (.plain (OpenSpec.ofChange fnExactSpareSpec)) fnExactSpareCard

/-- THE TIED CARD OF 'laws.FnExactStored'. -/
def fnExactStoredCard : Claim7 := { stood := { row := fnExactStoredRow, standIns := [], harness := (true, "e598932ee7586a1a968b35f427bb6c6bc7727e60a97debca7f85d21da2f13ea2"), looks := true }, kinds := [], alts := [], laidByText := true, laidKinds := [.handle, .sentinel, .sentinel, .sentinel, .data], laidTests := true, laidLooks := .later }
def FnExactStoredCardSaid : Prop := Claim7.holds Tryz.pinned (.plain (OpenSpec.ofChange fnExactStoredSpec)) fnExactStoredCard

/-- THE TIED CARD OF 'laws.FnNever'. -/
def fnNeverCard : Claim7 := { stood := { row := fnNeverRow, standIns := [], harness := (true, "e598932ee7586a1a968b35f427bb6c6bc7727e60a97debca7f85d21da2f13ea2"), looks := true }, kinds := [], alts := [], laidByText := true, laidKinds := [.handle, .sentinel, .sentinel, .sentinel, .data], laidTests := true, laidLooks := .later }
def FnNeverCardSaid : Prop := Claim7.holds Tryz.pinned (.plain (OpenSpec.ofChange fnNeverSpec)) fnNeverCard

/-- THE TIED CARD OF 'laws.FnNotLen'. -/
def fnNotLenCard : Claim7 := { stood := { row := fnNotLenRow, standIns := [], harness := (true, "e598932ee7586a1a968b35f427bb6c6bc7727e60a97debca7f85d21da2f13ea2"), looks := true }, kinds := [], alts := [], laidByText := true, laidKinds := [.handle, .sentinel, .sentinel, .sentinel, .data], laidTests := true, laidLooks := .later }
def FnNotLenCardSaid : Prop := Claim7.holds Tryz.pinned (.plain (OpenSpec.ofChange fnNotLenSpec)) fnNotLenCard

/-- THE TIED CARD OF 'laws.FnOver'. -/
def fnOverCard : Claim7 := { stood := { row := fnOverRow, standIns := [], harness := (true, "e598932ee7586a1a968b35f427bb6c6bc7727e60a97debca7f85d21da2f13ea2"), looks := true }, kinds := [], alts := [], laidByText := true, laidKinds := [.handle, .sentinel, .sentinel, .sentinel, .data], laidTests := true, laidLooks := .later }
def FnOverCardSaid : Prop := Claim7.holds Tryz.pinned (.plain (OpenSpec.ofChange fnOverSpec)) fnOverCard

/-- THE TIED CARD OF 'laws.FnTooFar'. -/
def fnTooFarCard : Claim7 := { stood := { row := fnTooFarRow, standIns := [], harness := (true, "e598932ee7586a1a968b35f427bb6c6bc7727e60a97debca7f85d21da2f13ea2"), looks := true }, kinds := [], alts := [], laidByText := true, laidKinds := [.handle, .sentinel, .sentinel, .sentinel, .data], laidTests := true, laidLooks := .later }
def FnTooFarCardSaid : Prop := Claim7.holds Tryz.pinned (.plain (OpenSpec.ofChange fnTooFarSpec)) fnTooFarCard

/-- THE TIED CARD OF 'laws.FnTypeThree'. -/
def fnTypeThreeCard : Claim7 := { stood := { row := fnTypeThreeRow, standIns := [], harness := (true, "e598932ee7586a1a968b35f427bb6c6bc7727e60a97debca7f85d21da2f13ea2"), looks := true }, kinds := [], alts := [], laidByText := true, laidKinds := [.handle, .sentinel, .sentinel, .sentinel, .data], laidTests := true, laidLooks := .later }
def FnTypeThreeCardSaid : Prop := Claim7.holds Tryz.pinned (.plain (OpenSpec.ofChange fnTypeThreeSpec)) fnTypeThreeCard

/-- THE SECOND FORM's CARD OF 'laws.FnBadRun'. -/
def fnBadRunUptoCard : Claim7 := { stood := { row := fnBadRunUptoRow, standIns := [], harness := (true, "e598932ee7586a1a968b35f427bb6c6bc7727e60a97debca7f85d21da2f13ea2"), looks := true }, kinds := [], alts := [], laidByText := true, laidKinds := [.handle, .sentinel, .sentinel, .sentinel, .data], laidTests := true, laidLooks := .later }
def FnBadRunUptoCardSaid : Prop := Claim7.holds Tryz.pinned (.plain (OpenSpec.upto fnBadRunSpec)) fnBadRunUptoCard

/-- THE SECOND FORM's CARD OF 'laws.FnExactDictOf'. -/
def fnExactDictOfUptoCard : Claim7 := { stood := { row := fnExactDictOfUptoRow, standIns := [], harness := (true, "e598932ee7586a1a968b35f427bb6c6bc7727e60a97debca7f85d21da2f13ea2"), looks := true }, kinds := [], alts := [], laidByText := true, laidKinds := [.handle, .sentinel, .sentinel, .sentinel, .data], laidTests := true, laidLooks := .later }
def FnExactDictOfUptoCardSaid : Prop := Claim7.holds Tryz.pinned (.plain (OpenSpec.upto fnExactDictOfSpec)) fnExactDictOfUptoCard

/-- THE SECOND FORM's CARD OF 'laws.FnExactDynamic'. -/
def fnExactDynamicUptoCard : Claim7 := { stood := { row := fnExactDynamicUptoRow, standIns := [], harness := (true, "e598932ee7586a1a968b35f427bb6c6bc7727e60a97debca7f85d21da2f13ea2"), looks := true }, kinds := [], alts := [], laidByText := true, laidKinds := [.handle, .sentinel, .sentinel, .sentinel, .data], laidTests := true, laidLooks := .later }
def FnExactDynamicUptoCardSaid : Prop := Claim7.holds Tryz.pinned (.plain (OpenSpec.upto fnExactDynamicSpec)) fnExactDynamicUptoCard

/-- THE SECOND FORM's CARD OF 'laws.FnExactFar'. -/
def fnExactFarUptoCard : Claim7 := { stood := { row := fnExactFarUptoRow, standIns := [], harness := (true, "e598932ee7586a1a968b35f427bb6c6bc7727e60a97debca7f85d21da2f13ea2"), looks := true }, kinds := [], alts := [], laidByText := true, laidKinds := [.handle, .sentinel, .sentinel, .sentinel, .data], laidTests := true, laidLooks := .later }
def FnExactFarUptoCardSaid : Prop := Claim7.holds Tryz.pinned (.plain (OpenSpec.upto fnExactFarSpec)) fnExactFarUptoCard

/-- THE SECOND FORM's CARD OF 'laws.FnExactFixed'. -/
def fnExactFixedUptoCard : Claim7 := { stood := { row := fnExactFixedUptoRow, standIns := [], harness := (true, "e598932ee7586a1a968b35f427bb6c6bc7727e60a97debca7f85d21da2f13ea2"), looks := true }, kinds := [], alts := [], laidByText := true, laidKinds := [.handle, .sentinel, .sentinel, .sentinel, .data], laidTests := true, laidLooks := .later }
def FnExactFixedUptoCardSaid : Prop := Claim7.holds Tryz.pinned (.plain (OpenSpec.upto fnExactFixedSpec)) fnExactFixedUptoCard

/-- THE SECOND FORM's CARD OF 'laws.FnExactMixed'. -/
def fnExactMixedUptoCard : Claim7 := { stood := { row := fnExactMixedUptoRow, standIns := [], harness := (true, "e598932ee7586a1a968b35f427bb6c6bc7727e60a97debca7f85d21da2f13ea2"), looks := true }, kinds := [], alts := [], laidByText := true, laidKinds := [.handle, .sentinel, .sentinel, .sentinel, .data], laidTests := true, laidLooks := .later }
def FnExactMixedUptoCardSaid : Prop := Claim7.holds Tryz.pinned (.plain (OpenSpec.upto fnExactMixedSpec)) fnExactMixedUptoCard

/-- THE SECOND FORM's CARD OF 'laws.FnExactSpare'. -/
def fnExactSpareUptoCard : Claim7 := { stood := { row := fnExactSpareUptoRow, standIns := [], harness := (true, "e598932ee7586a1a968b35f427bb6c6bc7727e60a97debca7f85d21da2f13ea2"), looks := true }, kinds := [], alts := [], laidByText := true, laidKinds := [.handle, .sentinel, .sentinel, .sentinel, .data], laidTests := true, laidLooks := .later }
def FnExactSpareUptoCardSaid : Prop := Claim7.holds Tryz.pinned (.plain (OpenSpec.upto fnExactSpareSpec)) fnExactSpareUptoCard

/-- THE SECOND FORM's CARD OF 'laws.FnExactStored'. -/
def fnExactStoredUptoCard : Claim7 := { stood := { row := fnExactStoredUptoRow, standIns := [], harness := (true, "e598932ee7586a1a968b35f427bb6c6bc7727e60a97debca7f85d21da2f13ea2"), looks := true }, kinds := [], alts := [], laidByText := true, laidKinds := [.handle, .sentinel, .sentinel, .sentinel, .data], laidTests := true, laidLooks := .later }
def FnExactStoredUptoCardSaid : Prop := Claim7.holds Tryz.pinned (.plain (OpenSpec.upto fnExactStoredSpec)) fnExactStoredUptoCard

/-- THE SECOND FORM's CARD OF 'laws.FnNever'. -/
def fnNeverUptoCard : Claim7 := { stood := { row := fnNeverUptoRow, standIns := [], harness := (true, "e598932ee7586a1a968b35f427bb6c6bc7727e60a97debca7f85d21da2f13ea2"), looks := true }, kinds := [], alts := [], laidByText := true, laidKinds := [.handle, .sentinel, .sentinel, .sentinel, .data], laidTests := true, laidLooks := .later }
def FnNeverUptoCardSaid : Prop := Claim7.holds Tryz.pinned (.plain (OpenSpec.upto fnNeverSpec)) fnNeverUptoCard

/-- THE SECOND FORM's CARD OF 'laws.FnNotLen'. -/
def fnNotLenUptoCard : Claim7 := { stood := { row := fnNotLenUptoRow, standIns := [], harness := (true, "e598932ee7586a1a968b35f427bb6c6bc7727e60a97debca7f85d21da2f13ea2"), looks := true }, kinds := [], alts := [], laidByText := true, laidKinds := [.handle, .sentinel, .sentinel, .sentinel, .data], laidTests := true, laidLooks := .later }
def FnNotLenUptoCardSaid : Prop := Claim7.holds Tryz.pinned (.plain (OpenSpec.upto fnNotLenSpec)) fnNotLenUptoCard

/-- THE SECOND FORM's CARD OF 'laws.FnOver'. -/
def fnOverUptoCard : Claim7 := { stood := { row := fnOverUptoRow, standIns := [], harness := (true, "e598932ee7586a1a968b35f427bb6c6bc7727e60a97debca7f85d21da2f13ea2"), looks := true }, kinds := [], alts := [], laidByText := true, laidKinds := [.handle, .sentinel, .sentinel, .sentinel, .data], laidTests := true, laidLooks := .later }
def FnOverUptoCardSaid : Prop := Claim7.holds Tryz.pinned (.plain (OpenSpec.upto fnOverSpec)) fnOverUptoCard

/-- THE SECOND FORM's CARD OF 'laws.FnTooFar'. -/
def fnTooFarUptoCard : Claim7 := { stood := { row := fnTooFarUptoRow, standIns := [], harness := (true, "e598932ee7586a1a968b35f427bb6c6bc7727e60a97debca7f85d21da2f13ea2"), looks := true }, kinds := [], alts := [], laidByText := true, laidKinds := [.handle, .sentinel, .sentinel, .sentinel, .data], laidTests := true, laidLooks := .later }
def FnTooFarUptoCardSaid : Prop := Claim7.holds Tryz.pinned (.plain (OpenSpec.upto fnTooFarSpec)) fnTooFarUptoCard

/-- THE SECOND FORM's CARD OF 'laws.FnTypeThree'. -/
def fnTypeThreeUptoCard : Claim7 := { stood := { row := fnTypeThreeUptoRow, standIns := [], harness := (true, "e598932ee7586a1a968b35f427bb6c6bc7727e60a97debca7f85d21da2f13ea2"), looks := true }, kinds := [], alts := [], laidByText := true, laidKinds := [.handle, .sentinel, .sentinel, .sentinel, .data], laidTests := true, laidLooks := .later }
def FnTypeThreeUptoCardSaid : Prop := Claim7.holds Tryz.pinned (.plain (OpenSpec.upto fnTypeThreeSpec)) fnTypeThreeUptoCard
end Rows
end Go.Proofs.YtkpadembffdepaaGreatDoor
