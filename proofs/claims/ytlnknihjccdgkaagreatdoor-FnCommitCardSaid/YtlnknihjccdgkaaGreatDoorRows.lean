/-
  NARROWER THAN 'FOR EVERY INPUT', by the rows' own cells (each row's printed sentence says how): FnVotes: laid · FnOrder: laid · FnCommit: laid.
  DERIVED. THE GIVEN ROWS OF THIS SEAT. 3 by the template 'for every input the law returns true; each argument reads behind the call as it read before'; 0 by the template 'total and deterministic' (their statements: YtlnknihjccdgkaaGreatDoorTotals.lean).
  GIVEN WITH THE SEED: the statements are not yours to turn. If you find one false, say at which input.
  Laid BY PROGRAM, IN A SANDBOX (cutbox-rows.mjs): the forced cells as the released guide's own fill.sh prints them over the translation f8f7dc3c44669207… (all of the seat's roots in one cut). By AI agents, Wed Nov 11 2026. No macro, syntax, notation, axiom, sorry.
-/
import Derived.Test.YtlnknihjccdgkaaGreatDoorChecked
import GoSem.Claim
import GoSem.ClaimJoined
import GoSem.ClaimMapViews
import Derived.JoinedTies
import Derived.KernelRfl
namespace Go.Proofs.YtlnknihjccdgkaaGreatDoor
/- THE CELL 'sum', in the pinned program and in every row, IS THE sha256 OF THE DUMP (.gsa) THAT YtlnknihjccdgkaaGreatDoorProg.lean LOADS. Nothing in Lean hashes anything: it is a label: what it is worth is what the hold of that sum in a sandbox is worth. -/
noncomputable def Tryz.pinned : Pinned := { name := "ytlnknihjccdgkaagreatdoor", sum := "f8f7dc3c4466920732cd8e2b4e6b3f4fa493a89e7dd1a8526ba1edaf12d2d1f2", checked := Tryz.checked }
namespace Rows
def none {H : Type} : Left H := { results := [], args := [] }

/- WHAT THE LISTED PACKAGE-LEVEL VARIABLES READ AS WHEN THE CALL BEGINS. Each datum BY PROGRAM (the guide's laid-datum.mjs) off the statement by which the dump's own 'gosem.cut.vars' lays the variable. In a bare row this is a premise. The card (YtlnknihjccdgkaaGreatDoorCards.lean) ties it to the program's text. -/
def laid_setsofvotes_pub_sha256_K {H : Type} : DataW H := .agg [.lit (.int .u32 1116352408), .lit (.int .u32 1899447441), .lit (.int .u32 3049323471), .lit (.int .u32 3921009573), .lit (.int .u32 961987163), .lit (.int .u32 1508970993), .lit (.int .u32 2453635748), .lit (.int .u32 2870763221), .lit (.int .u32 3624381080), .lit (.int .u32 310598401), .lit (.int .u32 607225278), .lit (.int .u32 1426881987), .lit (.int .u32 1925078388), .lit (.int .u32 2162078206), .lit (.int .u32 2614888103), .lit (.int .u32 3248222580), .lit (.int .u32 3835390401), .lit (.int .u32 4022224774), .lit (.int .u32 264347078), .lit (.int .u32 604807628), .lit (.int .u32 770255983), .lit (.int .u32 1249150122), .lit (.int .u32 1555081692), .lit (.int .u32 1996064986), .lit (.int .u32 2554220882), .lit (.int .u32 2821834349), .lit (.int .u32 2952996808), .lit (.int .u32 3210313671), .lit (.int .u32 3336571891), .lit (.int .u32 3584528711), .lit (.int .u32 113926993), .lit (.int .u32 338241895), .lit (.int .u32 666307205), .lit (.int .u32 773529912), .lit (.int .u32 1294757372), .lit (.int .u32 1396182291), .lit (.int .u32 1695183700), .lit (.int .u32 1986661051), .lit (.int .u32 2177026350), .lit (.int .u32 2456956037), .lit (.int .u32 2730485921), .lit (.int .u32 2820302411), .lit (.int .u32 3259730800), .lit (.int .u32 3345764771), .lit (.int .u32 3516065817), .lit (.int .u32 3600352804), .lit (.int .u32 4094571909), .lit (.int .u32 275423344), .lit (.int .u32 430227734), .lit (.int .u32 506948616), .lit (.int .u32 659060556), .lit (.int .u32 883997877), .lit (.int .u32 958139571), .lit (.int .u32 1322822218), .lit (.int .u32 1537002063), .lit (.int .u32 1747873779), .lit (.int .u32 1955562222), .lit (.int .u32 2024104815), .lit (.int .u32 2227730452), .lit (.int .u32 2361852424), .lit (.int .u32 2428436474), .lit (.int .u32 2756734187), .lit (.int .u32 3204031479), .lit (.int .u32 3329325298)]
def laid_setsofvotes_pub_comettypes_ErrVoteUnexpectedStep {H : Type} : DataW H := .iface "*errors.errorString" (.ptr (.agg [.lit (.string [117, 110, 101, 120, 112, 101, 99, 116, 101, 100, 32, 115, 116, 101, 112])]))
def laid_setsofvotes_pub_comettypes_ErrVoteInvalidValidatorIndex {H : Type} : DataW H := .iface "*errors.errorString" (.ptr (.agg [.lit (.string [105, 110, 118, 97, 108, 105, 100, 32, 118, 97, 108, 105, 100, 97, 116, 111, 114, 32, 105, 110, 100, 101, 120])]))
def laid_setsofvotes_pub_comettypes_ErrVoteInvalidValidatorAddress {H : Type} : DataW H := .iface "*errors.errorString" (.ptr (.agg [.lit (.string [105, 110, 118, 97, 108, 105, 100, 32, 118, 97, 108, 105, 100, 97, 116, 111, 114, 32, 97, 100, 100, 114, 101, 115, 115])]))
def laid_setsofvotes_pub_comettypes_ErrVoteInvalidSignature {H : Type} : DataW H := .iface "*errors.errorString" (.ptr (.agg [.lit (.string [105, 110, 118, 97, 108, 105, 100, 32, 115, 105, 103, 110, 97, 116, 117, 114, 101])]))
def laid_setsofvotes_pub_comettypes_ErrVoteNoSignature {H : Type} : DataW H := .iface "*errors.errorString" (.ptr (.agg [.lit (.string [110, 111, 32, 115, 105, 103, 110, 97, 116, 117, 114, 101])]))
def laid_setsofvotes_pub_comettypes_ErrVoteNonDeterministicSignature {H : Type} : DataW H := .iface "*errors.errorString" (.ptr (.agg [.lit (.string [110, 111, 110, 45, 100, 101, 116, 101, 114, 109, 105, 110, 105, 115, 116, 105, 99, 32, 115, 105, 103, 110, 97, 116, 117, 114, 101])]))
def laid_setsofvotes_pub_comettypes_ErrVoteNil {H : Type} : DataW H := .iface "*errors.errorString" (.ptr (.agg [.lit (.string [110, 105, 108, 32, 118, 111, 116, 101])]))

/-- 'laws.FnVotes': WHATEVER THE INPUT: true; the input reads as it did. -/
def fnVotesSpec : ChangeSpec := { name := "fnVotes", fn := fun _ => fun
  | [d1, d2, d3] => { results := [.lit (.bool true)], args := [d1, d2, d3] }
  | _ => none }
def fnVotesRow : OpenClaim := { program := "ytlnknihjccdgkaagreatdoor", sum := "f8f7dc3c4466920732cd8e2b4e6b3f4fa493a89e7dd1a8526ba1edaf12d2d1f2", func := "setsofvotes/laws.FnVotes", spec := "fnVotes", inPlace := ["internal/bytealg.Compare"], unfollowed := true, recurses := true, named := ["setsofvotes/pub/sha256._K", "setsofvotes/pub/comettypes.ErrVoteUnexpectedStep", "setsofvotes/pub/comettypes.ErrVoteInvalidValidatorIndex", "setsofvotes/pub/comettypes.ErrVoteInvalidValidatorAddress", "setsofvotes/pub/comettypes.ErrVoteInvalidSignature", "setsofvotes/pub/comettypes.ErrVoteNonDeterministicSignature", "setsofvotes/pub/comettypes.ErrVoteNil", "setsofvotes/pub/comettypes.ErrVoteNoSignature"], apart := false, laid := [("setsofvotes/pub/sha256._K", laid_setsofvotes_pub_sha256_K), ("setsofvotes/pub/comettypes.ErrVoteUnexpectedStep", laid_setsofvotes_pub_comettypes_ErrVoteUnexpectedStep), ("setsofvotes/pub/comettypes.ErrVoteInvalidValidatorIndex", laid_setsofvotes_pub_comettypes_ErrVoteInvalidValidatorIndex), ("setsofvotes/pub/comettypes.ErrVoteInvalidValidatorAddress", laid_setsofvotes_pub_comettypes_ErrVoteInvalidValidatorAddress), ("setsofvotes/pub/comettypes.ErrVoteInvalidSignature", laid_setsofvotes_pub_comettypes_ErrVoteInvalidSignature), ("setsofvotes/pub/comettypes.ErrVoteNoSignature", laid_setsofvotes_pub_comettypes_ErrVoteNoSignature), ("setsofvotes/pub/comettypes.ErrVoteNonDeterministicSignature", laid_setsofvotes_pub_comettypes_ErrVoteNonDeterministicSignature), ("setsofvotes/pub/comettypes.ErrVoteNil", laid_setsofvotes_pub_comettypes_ErrVoteNil)] }
def FnVotesSaid : Prop := fnVotesRow.holds Tryz.pinned (OpenSpec.ofChange fnVotesSpec)

/-- ITS FALSE NEIGHBOUR: 'it returns false'. Refute it at one input. -/
def fnVotesWrong : ChangeSpec := { name := "fnVotes", fn := fun _ => fun
  | [d1, d2, d3] => { results := [.lit (.bool false)], args := [d1, d2, d3] }
  | _ => none }
def FnVotesWrongFalsely : Prop := fnVotesRow.holds Tryz.pinned (OpenSpec.ofChange fnVotesWrong)

/-- 'laws.FnOrder': WHATEVER THE INPUT: true; the input reads as it did. -/
def fnOrderSpec : ChangeSpec := { name := "fnOrder", fn := fun _ => fun
  | [d1, d2, d3] => { results := [.lit (.bool true)], args := [d1, d2, d3] }
  | _ => none }
def fnOrderRow : OpenClaim := { program := "ytlnknihjccdgkaagreatdoor", sum := "f8f7dc3c4466920732cd8e2b4e6b3f4fa493a89e7dd1a8526ba1edaf12d2d1f2", func := "setsofvotes/laws.FnOrder", spec := "fnOrder", inPlace := ["internal/bytealg.Compare"], unfollowed := true, recurses := true, named := ["setsofvotes/pub/sha256._K", "setsofvotes/pub/comettypes.ErrVoteUnexpectedStep", "setsofvotes/pub/comettypes.ErrVoteInvalidValidatorIndex", "setsofvotes/pub/comettypes.ErrVoteInvalidValidatorAddress", "setsofvotes/pub/comettypes.ErrVoteInvalidSignature", "setsofvotes/pub/comettypes.ErrVoteNonDeterministicSignature", "setsofvotes/pub/comettypes.ErrVoteNil", "setsofvotes/pub/comettypes.ErrVoteNoSignature"], apart := false, laid := [("setsofvotes/pub/sha256._K", laid_setsofvotes_pub_sha256_K), ("setsofvotes/pub/comettypes.ErrVoteUnexpectedStep", laid_setsofvotes_pub_comettypes_ErrVoteUnexpectedStep), ("setsofvotes/pub/comettypes.ErrVoteInvalidValidatorIndex", laid_setsofvotes_pub_comettypes_ErrVoteInvalidValidatorIndex), ("setsofvotes/pub/comettypes.ErrVoteInvalidValidatorAddress", laid_setsofvotes_pub_comettypes_ErrVoteInvalidValidatorAddress), ("setsofvotes/pub/comettypes.ErrVoteInvalidSignature", laid_setsofvotes_pub_comettypes_ErrVoteInvalidSignature), ("setsofvotes/pub/comettypes.ErrVoteNoSignature", laid_setsofvotes_pub_comettypes_ErrVoteNoSignature), ("setsofvotes/pub/comettypes.ErrVoteNonDeterministicSignature", laid_setsofvotes_pub_comettypes_ErrVoteNonDeterministicSignature), ("setsofvotes/pub/comettypes.ErrVoteNil", laid_setsofvotes_pub_comettypes_ErrVoteNil)] }
def FnOrderSaid : Prop := fnOrderRow.holds Tryz.pinned (OpenSpec.ofChange fnOrderSpec)

/-- ITS FALSE NEIGHBOUR: 'it returns false'. Refute it at one input. -/
def fnOrderWrong : ChangeSpec := { name := "fnOrder", fn := fun _ => fun
  | [d1, d2, d3] => { results := [.lit (.bool false)], args := [d1, d2, d3] }
  | _ => none }
def FnOrderWrongFalsely : Prop := fnOrderRow.holds Tryz.pinned (OpenSpec.ofChange fnOrderWrong)

/-- 'laws.FnCommit': WHATEVER THE INPUT: true; the input reads as it did. -/
def fnCommitSpec : ChangeSpec := { name := "fnCommit", fn := fun _ => fun
  | [d1, d2] => { results := [.lit (.bool true)], args := [d1, d2] }
  | _ => none }
def fnCommitRow : OpenClaim := { program := "ytlnknihjccdgkaagreatdoor", sum := "f8f7dc3c4466920732cd8e2b4e6b3f4fa493a89e7dd1a8526ba1edaf12d2d1f2", func := "setsofvotes/laws.FnCommit", spec := "fnCommit", inPlace := ["internal/bytealg.Compare"], unfollowed := true, recurses := true, named := ["setsofvotes/pub/sha256._K", "setsofvotes/pub/comettypes.ErrVoteNil", "setsofvotes/pub/comettypes.ErrVoteInvalidValidatorIndex", "setsofvotes/pub/comettypes.ErrVoteInvalidValidatorAddress", "setsofvotes/pub/comettypes.ErrVoteUnexpectedStep", "setsofvotes/pub/comettypes.ErrVoteNonDeterministicSignature", "setsofvotes/pub/comettypes.ErrVoteNoSignature", "setsofvotes/pub/comettypes.ErrVoteInvalidSignature"], apart := false, laid := [("setsofvotes/pub/sha256._K", laid_setsofvotes_pub_sha256_K), ("setsofvotes/pub/comettypes.ErrVoteUnexpectedStep", laid_setsofvotes_pub_comettypes_ErrVoteUnexpectedStep), ("setsofvotes/pub/comettypes.ErrVoteInvalidValidatorIndex", laid_setsofvotes_pub_comettypes_ErrVoteInvalidValidatorIndex), ("setsofvotes/pub/comettypes.ErrVoteInvalidValidatorAddress", laid_setsofvotes_pub_comettypes_ErrVoteInvalidValidatorAddress), ("setsofvotes/pub/comettypes.ErrVoteInvalidSignature", laid_setsofvotes_pub_comettypes_ErrVoteInvalidSignature), ("setsofvotes/pub/comettypes.ErrVoteNoSignature", laid_setsofvotes_pub_comettypes_ErrVoteNoSignature), ("setsofvotes/pub/comettypes.ErrVoteNonDeterministicSignature", laid_setsofvotes_pub_comettypes_ErrVoteNonDeterministicSignature), ("setsofvotes/pub/comettypes.ErrVoteNil", laid_setsofvotes_pub_comettypes_ErrVoteNil)] }
def FnCommitSaid : Prop := fnCommitRow.holds Tryz.pinned (OpenSpec.ofChange fnCommitSpec)

/-- ITS FALSE NEIGHBOUR: 'it returns false'. Refute it at one input. -/
def fnCommitWrong : ChangeSpec := { name := "fnCommit", fn := fun _ => fun
  | [d1, d2] => { results := [.lit (.bool false)], args := [d1, d2] }
  | _ => none }
def FnCommitWrongFalsely : Prop := fnCommitRow.holds Tryz.pinned (OpenSpec.ofChange fnCommitWrong)

/- THE SECOND FORM. 'bulk': how many values and letters a reading holds, each counted each time it is reached (what is shared counts as often as it is met; a slice's spare places count too). A statement '..UptoSaid' is the law's where the arguments, and the package variables that the reading takes, are together of bulk at most 1048576: NARROWER than '..Said'. Prove '..Said' where nothing that the law and all that it calls make is longer than what came in: it says more and counts as full. Else prove '..UptoSaid'. A law counts once. -/
mutual
def uptoBulk {H : Type} : DataW H → Nat
  | .lit (.string bytes) => bytes.length + 1
  | .lit _ => 1
  | .nil => 1
  | .ptr d => uptoBulk d + 1
  | .slice elems spare => uptoBulkAll elems + uptoBulkAll spare + 1
  | .agg parts => uptoBulkAll parts + 1
  | .iface _ d => uptoBulk d + 1
  | .map entries => uptoBulkEntries entries + 1
  | .held _ => 1
def uptoBulkAll {H : Type} : List (DataW H) → Nat
  | [] => 0
  | d :: r => uptoBulk d + uptoBulkAll r
def uptoBulkEntries {H : Type} : List (Lit × DataW H) → Nat
  | [] => 0
  | x :: r => uptoBulkEntry x + uptoBulkEntries r
def uptoBulkEntry {H : Type} : Lit × DataW H → Nat
  | (.string bytes, d) => bytes.length + uptoBulk d + 1
  | (_, d) => uptoBulk d + 1
 end
def uptoSmall : (H : Type) → List (DataW H) → Bool := fun _ ds => decide (uptoBulkAll ds ≤ 1048576)
def OpenSpec.upto (s : _root_.Go.ChangeSpec) : _root_.Go.OpenSpec := { _root_.Go.OpenSpec.ofChange s with cond := some uptoSmall }

/-- 'laws.FnVotes', WHERE WHAT IT READS IS OF BULK AT MOST 1048576: true; the input reads as it did. -/
def fnVotesUptoRow : OpenClaim := { program := "ytlnknihjccdgkaagreatdoor", sum := "f8f7dc3c4466920732cd8e2b4e6b3f4fa493a89e7dd1a8526ba1edaf12d2d1f2", func := "setsofvotes/laws.FnVotes", spec := "fnVotes", inPlace := ["internal/bytealg.Compare"], unfollowed := true, recurses := true, named := ["setsofvotes/pub/sha256._K", "setsofvotes/pub/comettypes.ErrVoteUnexpectedStep", "setsofvotes/pub/comettypes.ErrVoteInvalidValidatorIndex", "setsofvotes/pub/comettypes.ErrVoteInvalidValidatorAddress", "setsofvotes/pub/comettypes.ErrVoteInvalidSignature", "setsofvotes/pub/comettypes.ErrVoteNonDeterministicSignature", "setsofvotes/pub/comettypes.ErrVoteNil", "setsofvotes/pub/comettypes.ErrVoteNoSignature"], apart := false, laid := [("setsofvotes/pub/sha256._K", laid_setsofvotes_pub_sha256_K), ("setsofvotes/pub/comettypes.ErrVoteUnexpectedStep", laid_setsofvotes_pub_comettypes_ErrVoteUnexpectedStep), ("setsofvotes/pub/comettypes.ErrVoteInvalidValidatorIndex", laid_setsofvotes_pub_comettypes_ErrVoteInvalidValidatorIndex), ("setsofvotes/pub/comettypes.ErrVoteInvalidValidatorAddress", laid_setsofvotes_pub_comettypes_ErrVoteInvalidValidatorAddress), ("setsofvotes/pub/comettypes.ErrVoteInvalidSignature", laid_setsofvotes_pub_comettypes_ErrVoteInvalidSignature), ("setsofvotes/pub/comettypes.ErrVoteNoSignature", laid_setsofvotes_pub_comettypes_ErrVoteNoSignature), ("setsofvotes/pub/comettypes.ErrVoteNonDeterministicSignature", laid_setsofvotes_pub_comettypes_ErrVoteNonDeterministicSignature), ("setsofvotes/pub/comettypes.ErrVoteNil", laid_setsofvotes_pub_comettypes_ErrVoteNil)], narrowed := true }
def FnVotesUptoSaid : Prop := fnVotesUptoRow.holds Tryz.pinned (OpenSpec.upto fnVotesSpec)

/-- 'laws.FnOrder', WHERE WHAT IT READS IS OF BULK AT MOST 1048576: true; the input reads as it did. -/
def fnOrderUptoRow : OpenClaim := { program := "ytlnknihjccdgkaagreatdoor", sum := "f8f7dc3c4466920732cd8e2b4e6b3f4fa493a89e7dd1a8526ba1edaf12d2d1f2", func := "setsofvotes/laws.FnOrder", spec := "fnOrder", inPlace := ["internal/bytealg.Compare"], unfollowed := true, recurses := true, named := ["setsofvotes/pub/sha256._K", "setsofvotes/pub/comettypes.ErrVoteUnexpectedStep", "setsofvotes/pub/comettypes.ErrVoteInvalidValidatorIndex", "setsofvotes/pub/comettypes.ErrVoteInvalidValidatorAddress", "setsofvotes/pub/comettypes.ErrVoteInvalidSignature", "setsofvotes/pub/comettypes.ErrVoteNonDeterministicSignature", "setsofvotes/pub/comettypes.ErrVoteNil", "setsofvotes/pub/comettypes.ErrVoteNoSignature"], apart := false, laid := [("setsofvotes/pub/sha256._K", laid_setsofvotes_pub_sha256_K), ("setsofvotes/pub/comettypes.ErrVoteUnexpectedStep", laid_setsofvotes_pub_comettypes_ErrVoteUnexpectedStep), ("setsofvotes/pub/comettypes.ErrVoteInvalidValidatorIndex", laid_setsofvotes_pub_comettypes_ErrVoteInvalidValidatorIndex), ("setsofvotes/pub/comettypes.ErrVoteInvalidValidatorAddress", laid_setsofvotes_pub_comettypes_ErrVoteInvalidValidatorAddress), ("setsofvotes/pub/comettypes.ErrVoteInvalidSignature", laid_setsofvotes_pub_comettypes_ErrVoteInvalidSignature), ("setsofvotes/pub/comettypes.ErrVoteNoSignature", laid_setsofvotes_pub_comettypes_ErrVoteNoSignature), ("setsofvotes/pub/comettypes.ErrVoteNonDeterministicSignature", laid_setsofvotes_pub_comettypes_ErrVoteNonDeterministicSignature), ("setsofvotes/pub/comettypes.ErrVoteNil", laid_setsofvotes_pub_comettypes_ErrVoteNil)], narrowed := true }
def FnOrderUptoSaid : Prop := fnOrderUptoRow.holds Tryz.pinned (OpenSpec.upto fnOrderSpec)

/-- 'laws.FnCommit', WHERE WHAT IT READS IS OF BULK AT MOST 1048576: true; the input reads as it did. -/
def fnCommitUptoRow : OpenClaim := { program := "ytlnknihjccdgkaagreatdoor", sum := "f8f7dc3c4466920732cd8e2b4e6b3f4fa493a89e7dd1a8526ba1edaf12d2d1f2", func := "setsofvotes/laws.FnCommit", spec := "fnCommit", inPlace := ["internal/bytealg.Compare"], unfollowed := true, recurses := true, named := ["setsofvotes/pub/sha256._K", "setsofvotes/pub/comettypes.ErrVoteNil", "setsofvotes/pub/comettypes.ErrVoteInvalidValidatorIndex", "setsofvotes/pub/comettypes.ErrVoteInvalidValidatorAddress", "setsofvotes/pub/comettypes.ErrVoteUnexpectedStep", "setsofvotes/pub/comettypes.ErrVoteNonDeterministicSignature", "setsofvotes/pub/comettypes.ErrVoteNoSignature", "setsofvotes/pub/comettypes.ErrVoteInvalidSignature"], apart := false, laid := [("setsofvotes/pub/sha256._K", laid_setsofvotes_pub_sha256_K), ("setsofvotes/pub/comettypes.ErrVoteUnexpectedStep", laid_setsofvotes_pub_comettypes_ErrVoteUnexpectedStep), ("setsofvotes/pub/comettypes.ErrVoteInvalidValidatorIndex", laid_setsofvotes_pub_comettypes_ErrVoteInvalidValidatorIndex), ("setsofvotes/pub/comettypes.ErrVoteInvalidValidatorAddress", laid_setsofvotes_pub_comettypes_ErrVoteInvalidValidatorAddress), ("setsofvotes/pub/comettypes.ErrVoteInvalidSignature", laid_setsofvotes_pub_comettypes_ErrVoteInvalidSignature), ("setsofvotes/pub/comettypes.ErrVoteNoSignature", laid_setsofvotes_pub_comettypes_ErrVoteNoSignature), ("setsofvotes/pub/comettypes.ErrVoteNonDeterministicSignature", laid_setsofvotes_pub_comettypes_ErrVoteNonDeterministicSignature), ("setsofvotes/pub/comettypes.ErrVoteNil", laid_setsofvotes_pub_comettypes_ErrVoteNil)], narrowed := true }
def FnCommitUptoSaid : Prop := fnCommitUptoRow.holds Tryz.pinned (OpenSpec.upto fnCommitSpec)

end Rows
end Go.Proofs.YtlnknihjccdgkaaGreatDoor
