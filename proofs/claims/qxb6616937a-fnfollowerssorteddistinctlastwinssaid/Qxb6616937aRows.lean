/-
  No cell of these rows narrows 'for every input' (looked for: loops, veiled, ifaces, maps, wideKeys, modest, calm, conditions, laid).
  DERIVED. THE GIVEN ROWS OF THIS SEAT. 5 by the template 'for every input the law returns true; each argument reads behind the call as it read before'; 0 by the template 'total and deterministic' (their statements: Qxb6616937aTotals.lean).
  GIVEN WITH THE SEED: the statements are not yours to turn. If you find one false, say at which input.
  Laid BY PROGRAM, IN A SANDBOX (cutbox-rows.mjs): the forced cells as the released guide's own fill.sh prints them over the translation 89f06d589087c1ed… (all of the seat's roots in one cut). By AI agents, Wed Nov 11 2026. No macro, syntax, notation, axiom, sorry.
-/
import Derived.Test.Qxb6616937aChecked
import GoSem.Claim
import GoSem.ClaimJoined
import GoSem.ClaimMapViews
import Derived.JoinedTies
import Derived.KernelRfl
namespace Go.Proofs.Qxb6616937a
/- THE CELL 'sum', in the pinned program and in every row, IS THE sha256 OF THE DUMP (.gsa) THAT Qxb6616937aProg.lean LOADS. Nothing in Lean hashes anything: it is a label: what it is worth is what the hold of that sum in a sandbox is worth. -/
noncomputable def Try.pinned : Pinned := { name := "qxb6616937a", sum := "89f06d589087c1ed2b61b903c1c85e8e03d6e49c0dd118009d63bf1fe0c0f95d", checked := Try.checked }
namespace Rows
def none {H : Type} : Left H := { results := [], args := [] }

/-- 'zzlaws_root_b1.FnCborEntryReadsCanonicalEncoding': WHATEVER THE INPUT: true; the input reads as it did. -/
def fnCborEntryReadsCanonicalEncodingSpec : ChangeSpec := { name := "fnCborEntryReadsCanonicalEncoding", fn := fun _ => fun
  | [d1, d2, d3, d4, d5, d6, d7, d8, d9, d10, d11] => { results := [.lit (.bool true)], args := [d1, d2, d3, d4, d5, d6, d7, d8, d9, d10, d11] }
  | _ => none }
def fnCborEntryReadsCanonicalEncodingRow : OpenClaim := { program := "qxb6616937a", sum := "89f06d589087c1ed2b61b903c1c85e8e03d6e49c0dd118009d63bf1fe0c0f95d", func := "example.com/quorumshift/quorumshift/zzlaws_root_b1.FnCborEntryReadsCanonicalEncoding", spec := "fnCborEntryReadsCanonicalEncoding", plainKeys := false, apart := false }
def FnCborEntryReadsCanonicalEncodingSaid : Prop := fnCborEntryReadsCanonicalEncodingRow.holds Try.pinned (OpenSpec.ofChange fnCborEntryReadsCanonicalEncodingSpec)

/-- ITS FALSE NEIGHBOUR: 'it returns false'. Refute it at one input. -/
def fnCborEntryReadsCanonicalEncodingWrong : ChangeSpec := { name := "fnCborEntryReadsCanonicalEncoding", fn := fun _ => fun
  | [d1, d2, d3, d4, d5, d6, d7, d8, d9, d10, d11] => { results := [.lit (.bool false)], args := [d1, d2, d3, d4, d5, d6, d7, d8, d9, d10, d11] }
  | _ => none }
def FnCborEntryReadsCanonicalEncodingWrongFalsely : Prop := fnCborEntryReadsCanonicalEncodingRow.holds Try.pinned (OpenSpec.ofChange fnCborEntryReadsCanonicalEncodingWrong)

/-- 'zzlaws_root_b1.FnNewRoundStaysUntilSent': WHATEVER THE INPUT: true; the input reads as it did. -/
def fnNewRoundStaysUntilSentSpec : ChangeSpec := { name := "fnNewRoundStaysUntilSent", fn := fun _ => fun
  | [d1, d2] => { results := [.lit (.bool true)], args := [d1, d2] }
  | _ => none }
def fnNewRoundStaysUntilSentRow : OpenClaim := { program := "qxb6616937a", sum := "89f06d589087c1ed2b61b903c1c85e8e03d6e49c0dd118009d63bf1fe0c0f95d", func := "example.com/quorumshift/quorumshift/zzlaws_root_b1.FnNewRoundStaysUntilSent", spec := "fnNewRoundStaysUntilSent", plainKeys := false, apart := false }
def FnNewRoundStaysUntilSentSaid : Prop := fnNewRoundStaysUntilSentRow.holds Try.pinned (OpenSpec.ofChange fnNewRoundStaysUntilSentSpec)

/-- ITS FALSE NEIGHBOUR: 'it returns false'. Refute it at one input. -/
def fnNewRoundStaysUntilSentWrong : ChangeSpec := { name := "fnNewRoundStaysUntilSent", fn := fun _ => fun
  | [d1, d2] => { results := [.lit (.bool false)], args := [d1, d2] }
  | _ => none }
def FnNewRoundStaysUntilSentWrongFalsely : Prop := fnNewRoundStaysUntilSentRow.holds Try.pinned (OpenSpec.ofChange fnNewRoundStaysUntilSentWrong)

/-- 'zzlaws_root_b1.FnNewRoundFreshAfterEachSend': WHATEVER THE INPUT: true; the input reads as it did. -/
def fnNewRoundFreshAfterEachSendSpec : ChangeSpec := { name := "fnNewRoundFreshAfterEachSend", fn := fun _ => fun
  | [d1, d2, d3] => { results := [.lit (.bool true)], args := [d1, d2, d3] }
  | _ => none }
def fnNewRoundFreshAfterEachSendRow : OpenClaim := { program := "qxb6616937a", sum := "89f06d589087c1ed2b61b903c1c85e8e03d6e49c0dd118009d63bf1fe0c0f95d", func := "example.com/quorumshift/quorumshift/zzlaws_root_b1.FnNewRoundFreshAfterEachSend", spec := "fnNewRoundFreshAfterEachSend", plainKeys := false, apart := false }
def FnNewRoundFreshAfterEachSendSaid : Prop := fnNewRoundFreshAfterEachSendRow.holds Try.pinned (OpenSpec.ofChange fnNewRoundFreshAfterEachSendSpec)

/-- ITS FALSE NEIGHBOUR: 'it returns false'. Refute it at one input. -/
def fnNewRoundFreshAfterEachSendWrong : ChangeSpec := { name := "fnNewRoundFreshAfterEachSend", fn := fun _ => fun
  | [d1, d2, d3] => { results := [.lit (.bool false)], args := [d1, d2, d3] }
  | _ => none }
def FnNewRoundFreshAfterEachSendWrongFalsely : Prop := fnNewRoundFreshAfterEachSendRow.holds Try.pinned (OpenSpec.ofChange fnNewRoundFreshAfterEachSendWrong)

/-- 'zzlaws_root_b1.FnFollowersSortedDistinctLastWins': WHATEVER THE INPUT: true; the input reads as it did. -/
def fnFollowersSortedDistinctLastWinsSpec : ChangeSpec := { name := "fnFollowersSortedDistinctLastWins", fn := fun _ => fun
  | [d] => { results := [.lit (.bool true)], args := [d] }
  | _ => none }
def fnFollowersSortedDistinctLastWinsRow : OpenClaim := { program := "qxb6616937a", sum := "89f06d589087c1ed2b61b903c1c85e8e03d6e49c0dd118009d63bf1fe0c0f95d", func := "example.com/quorumshift/quorumshift/zzlaws_root_b1.FnFollowersSortedDistinctLastWins", spec := "fnFollowersSortedDistinctLastWins", unfollowed := true, recurses := true, plainKeys := false, apart := false }
def FnFollowersSortedDistinctLastWinsSaid : Prop := fnFollowersSortedDistinctLastWinsRow.holds Try.pinned (OpenSpec.ofChange fnFollowersSortedDistinctLastWinsSpec)

/-- ITS FALSE NEIGHBOUR: 'it returns false'. Refute it at one input. -/
def fnFollowersSortedDistinctLastWinsWrong : ChangeSpec := { name := "fnFollowersSortedDistinctLastWins", fn := fun _ => fun
  | [d] => { results := [.lit (.bool false)], args := [d] }
  | _ => none }
def FnFollowersSortedDistinctLastWinsWrongFalsely : Prop := fnFollowersSortedDistinctLastWinsRow.holds Try.pinned (OpenSpec.ofChange fnFollowersSortedDistinctLastWinsWrong)

/-- 'zzlaws_root_b1.FnFollowersStopsWhenAsked': WHATEVER THE INPUT: true; the input reads as it did. -/
def fnFollowersStopsWhenAskedSpec : ChangeSpec := { name := "fnFollowersStopsWhenAsked", fn := fun _ => fun
  | [d1, d2] => { results := [.lit (.bool true)], args := [d1, d2] }
  | _ => none }
def fnFollowersStopsWhenAskedRow : OpenClaim := { program := "qxb6616937a", sum := "89f06d589087c1ed2b61b903c1c85e8e03d6e49c0dd118009d63bf1fe0c0f95d", func := "example.com/quorumshift/quorumshift/zzlaws_root_b1.FnFollowersStopsWhenAsked", spec := "fnFollowersStopsWhenAsked", unfollowed := true, recurses := true, plainKeys := false, apart := false }
def FnFollowersStopsWhenAskedSaid : Prop := fnFollowersStopsWhenAskedRow.holds Try.pinned (OpenSpec.ofChange fnFollowersStopsWhenAskedSpec)

/-- ITS FALSE NEIGHBOUR: 'it returns false'. Refute it at one input. -/
def fnFollowersStopsWhenAskedWrong : ChangeSpec := { name := "fnFollowersStopsWhenAsked", fn := fun _ => fun
  | [d1, d2] => { results := [.lit (.bool false)], args := [d1, d2] }
  | _ => none }
def FnFollowersStopsWhenAskedWrongFalsely : Prop := fnFollowersStopsWhenAskedRow.holds Try.pinned (OpenSpec.ofChange fnFollowersStopsWhenAskedWrong)

end Rows
end Go.Proofs.Qxb6616937a
