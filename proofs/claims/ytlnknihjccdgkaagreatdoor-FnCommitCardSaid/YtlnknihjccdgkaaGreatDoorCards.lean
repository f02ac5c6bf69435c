/-
  DERIVED. GIVEN WITH THE SEED: THE CARDS: each row of YtlnknihjccdgkaaGreatDoorRows.lean that lists a variable, with what it lists TIED to the program's text (the seventh form; the later family's looks); each row that meets fmt, with fmt's text TOLD by the authors' own Lean function (tested against real Go, not proved from fmt's source: count such statements apart). THE CARD IS WHAT COUNTS. Prove the row's statement (the work); the ties are given (YtlnknihjccdgkaaGreatDoorTie.lean); close each card by the builder's one call (the guide's Derived/Test/ToyasCard.lean, 'card_holds'). Laid BY PROGRAM, IN A SANDBOX (cutbox-door.mjs). By AI agents, Wed Nov 11 2026. No macro, syntax, notation, axiom, sorry.
-/
import Derived.Test.YtlnknihjccdgkaaGreatDoorRows
import GoSem.ClaimSeven
namespace Go.Proofs.YtlnknihjccdgkaaGreatDoor
namespace Rows

/-- THE TIED CARD OF 'laws.FnVotes'. -/
def fnVotesCard : Claim7 := { stood := { row := fnVotesRow, standIns := [], harness := (true, "e66f66fcc9e638487d6add416e20c0b7846d720688726315e35c2961bf323e6e"), looks := true }, kinds := [], alts := [], laidByText := true, laidKinds := [.data, .sentinel, .sentinel, .sentinel, .sentinel, .sentinel, .sentinel, .sentinel], laidTests := true, laidLooks := .later }
def FnVotesCardSaid : Prop := Claim7.holds Tryz.pinned (.plain (OpenSpec.ofChange fnVotesSpec)) fnVotesCard

/-- THE TIED CARD OF 'laws.FnOrder'. -/
def fnOrderCard : Claim7 := { stood := { row := fnOrderRow, standIns := [], harness := (true, "e66f66fcc9e638487d6add416e20c0b7846d720688726315e35c2961bf323e6e"), looks := true }, kinds := [], alts := [], laidByText := true, laidKinds := [.data, .sentinel, .sentinel, .sentinel, .sentinel, .sentinel, .sentinel, .sentinel], laidTests := true, laidLooks := .later }
def FnOrderCardSaid : Prop := Claim7.holds Tryz.pinned (.plain (OpenSpec.ofChange fnOrderSpec)) fnOrderCard

/-- THE TIED CARD OF 'laws.FnCommit'. -/
def fnCommitCard : Claim7 := { stood := { row := fnCommitRow, standIns := [], harness := (true, "e66f66fcc9e638487d6add416e20c0b7846d720688726315e35c2961bf323e6e"), looks := true }, kinds := [], alts := [], laidByText := true, laidKinds := [.data, .sentinel, .sentinel, .sentinel, .sentinel, .sentinel, .sentinel, .sentinel], laidTests := true, laidLooks := .later }
def FnCommitCardSaid : Prop := Claim7.holds Tryz.pinned (.plain (OpenSpec.ofChange fnCommitSpec)) fnCommitCard

/-- THE SECOND FORM's CARD OF 'laws.FnVotes'. -/
def fnVotesUptoCard : Claim7 := { stood := { row := fnVotesUptoRow, standIns := [], harness := (true, "e66f66fcc9e638487d6add416e20c0b7846d720688726315e35c2961bf323e6e"), looks := true }, kinds := [], alts := [], laidByText := true, laidKinds := [.data, .sentinel, .sentinel, .sentinel, .sentinel, .sentinel, .sentinel, .sentinel], laidTests := true, laidLooks := .later }
def FnVotesUptoCardSaid : Prop := Claim7.holds Tryz.pinned (.plain (OpenSpec.upto fnVotesSpec)) fnVotesUptoCard

/-- THE SECOND FORM's CARD OF 'laws.FnOrder'. -/
def fnOrderUptoCard : Claim7 := { stood := { row := fnOrderUptoRow, standIns := [], harness := (true, "e66f66fcc9e638487d6add416e20c0b7846d720688726315e35c2961bf323e6e"), looks := true }, kinds := [], alts := [], laidByText := true, laidKinds := [.data, .sentinel, .sentinel, .sentinel, .sentinel, .sentinel, .sentinel, .sentinel], laidTests := true, laidLooks := .later }
def FnOrderUptoCardSaid : Prop := Claim7.holds Tryz.pinned (.plain (OpenSpec.upto fnOrderSpec)) fnOrderUptoCard

/-- THE SECOND FORM's CARD OF 'laws.FnCommit'. -/
def fnCommitUptoCard : Claim7 := { stood := { row := fnCommitUptoRow, standIns := [], harness := (true, "e66f66fcc9e638487d6add416e20c0b7846d720688726315e35c2961bf323e6e"), looks := true }, kinds := [], alts := [], laidByText := true, laidKinds := [.data, .sentinel, .sentinel, .sentinel, .sentinel, .sentinel, .sentinel, .sentinel], laidTests := true, laidLooks := .later }
def FnCommitUptoCardSaid : Prop := Claim7.holds Tryz.pinned (.plain (OpenSpec.upto fnCommitSpec)) fnCommitUptoCard
end Rows
end Go.Proofs.YtlnknihjccdgkaaGreatDoor
