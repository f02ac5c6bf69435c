/-
  DERIVED. GIVEN WITH THE SEED: THE PROGRAM's TIES (one call each: nine closed facts by the kernel) AND EACH ROW's TIE, after the 31st guide's Derived/Test/Toyas{Tie, Card}.lean. No idea stands in it: it is a product of the set-up. Laid BY PROGRAM, IN A SANDBOX (cutbox-door.mjs). By AI agents, Wed Nov 11 2026. No macro, syntax, notation, axiom, sorry.
-/
import Derived.Test.YtlnknihjccdgkaaGreatDoorRows
import Derived.LaidByTextLater
import Derived.SevenTiedAt
import Derived.LaidSub
import Derived.LaidOnce
namespace Go.Proofs.YtlnknihjccdgkaaGreatDoor
open Go
set_option maxRecDepth 100000
theorem seatTie1 : Tryz.prog.laidByTextLater [("setsofvotes/pub/sha256._K", Rows.laid_setsofvotes_pub_sha256_K), ("setsofvotes/pub/comettypes.ErrVoteUnexpectedStep", Rows.laid_setsofvotes_pub_comettypes_ErrVoteUnexpectedStep), ("setsofvotes/pub/comettypes.ErrVoteInvalidValidatorIndex", Rows.laid_setsofvotes_pub_comettypes_ErrVoteInvalidValidatorIndex), ("setsofvotes/pub/comettypes.ErrVoteInvalidValidatorAddress", Rows.laid_setsofvotes_pub_comettypes_ErrVoteInvalidValidatorAddress), ("setsofvotes/pub/comettypes.ErrVoteInvalidSignature", Rows.laid_setsofvotes_pub_comettypes_ErrVoteInvalidSignature), ("setsofvotes/pub/comettypes.ErrVoteNoSignature", Rows.laid_setsofvotes_pub_comettypes_ErrVoteNoSignature), ("setsofvotes/pub/comettypes.ErrVoteNonDeterministicSignature", Rows.laid_setsofvotes_pub_comettypes_ErrVoteNonDeterministicSignature), ("setsofvotes/pub/comettypes.ErrVoteNil", Rows.laid_setsofvotes_pub_comettypes_ErrVoteNil)] [.data, .sentinel, .sentinel, .sentinel, .sentinel, .sentinel, .sentinel, .sentinel] true :=
  Program.laidByTextLater_by_one 147 8 65 (by kernel_rfl) (by kernel_rfl) (by kernel_rfl) (by kernel_rfl) (by kernel_rfl) (by kernel_rfl) (fun _ _ => by kernel_rfl)
theorem noOwnUnsafe : Tryz.pinned.checked.prog.headLifts.contains "ownunsafe" = false := by kernel_rfl
theorem tie : Tryz.prog.laidByTextLater [("setsofvotes/pub/sha256._K", Rows.laid_setsofvotes_pub_sha256_K), ("setsofvotes/pub/comettypes.ErrVoteUnexpectedStep", Rows.laid_setsofvotes_pub_comettypes_ErrVoteUnexpectedStep), ("setsofvotes/pub/comettypes.ErrVoteInvalidValidatorIndex", Rows.laid_setsofvotes_pub_comettypes_ErrVoteInvalidValidatorIndex), ("setsofvotes/pub/comettypes.ErrVoteInvalidValidatorAddress", Rows.laid_setsofvotes_pub_comettypes_ErrVoteInvalidValidatorAddress), ("setsofvotes/pub/comettypes.ErrVoteInvalidSignature", Rows.laid_setsofvotes_pub_comettypes_ErrVoteInvalidSignature), ("setsofvotes/pub/comettypes.ErrVoteNoSignature", Rows.laid_setsofvotes_pub_comettypes_ErrVoteNoSignature), ("setsofvotes/pub/comettypes.ErrVoteNonDeterministicSignature", Rows.laid_setsofvotes_pub_comettypes_ErrVoteNonDeterministicSignature), ("setsofvotes/pub/comettypes.ErrVoteNil", Rows.laid_setsofvotes_pub_comettypes_ErrVoteNil)] [.data, .sentinel, .sentinel, .sentinel, .sentinel, .sentinel, .sentinel, .sentinel] true :=
  Program.laidByTextLater.sub seatTie1 ["setsofvotes/pub/sha256._K", "setsofvotes/pub/comettypes.ErrVoteUnexpectedStep", "setsofvotes/pub/comettypes.ErrVoteInvalidValidatorIndex", "setsofvotes/pub/comettypes.ErrVoteInvalidValidatorAddress", "setsofvotes/pub/comettypes.ErrVoteInvalidSignature", "setsofvotes/pub/comettypes.ErrVoteNoSignature", "setsofvotes/pub/comettypes.ErrVoteNonDeterministicSignature", "setsofvotes/pub/comettypes.ErrVoteNil"] (by kernel_rfl) (by kernel_rfl)
theorem fnVotes_row_tie : Rows.fnVotesRow.laidByTextAt .later Tryz.pinned [.data, .sentinel, .sentinel, .sentinel, .sentinel, .sentinel, .sentinel, .sentinel] true :=
  OpenClaim.laidByTextAt_later rfl rfl tie noOwnUnsafe
theorem fnOrder_row_tie : Rows.fnOrderRow.laidByTextAt .later Tryz.pinned [.data, .sentinel, .sentinel, .sentinel, .sentinel, .sentinel, .sentinel, .sentinel] true :=
  OpenClaim.laidByTextAt_later rfl rfl tie noOwnUnsafe
theorem fnCommit_row_tie : Rows.fnCommitRow.laidByTextAt .later Tryz.pinned [.data, .sentinel, .sentinel, .sentinel, .sentinel, .sentinel, .sentinel, .sentinel] true :=
  OpenClaim.laidByTextAt_later rfl rfl tie noOwnUnsafe
theorem fnVotesUpto_row_tie : Rows.fnVotesUptoRow.laidByTextAt .later Tryz.pinned [.data, .sentinel, .sentinel, .sentinel, .sentinel, .sentinel, .sentinel, .sentinel] true :=
  OpenClaim.laidByTextAt_later rfl rfl tie noOwnUnsafe
theorem fnOrderUpto_row_tie : Rows.fnOrderUptoRow.laidByTextAt .later Tryz.pinned [.data, .sentinel, .sentinel, .sentinel, .sentinel, .sentinel, .sentinel, .sentinel] true :=
  OpenClaim.laidByTextAt_later rfl rfl tie noOwnUnsafe
theorem fnCommitUpto_row_tie : Rows.fnCommitUptoRow.laidByTextAt .later Tryz.pinned [.data, .sentinel, .sentinel, .sentinel, .sentinel, .sentinel, .sentinel, .sentinel] true :=
  OpenClaim.laidByTextAt_later rfl rfl tie noOwnUnsafe
end Go.Proofs.YtlnknihjccdgkaaGreatDoor
