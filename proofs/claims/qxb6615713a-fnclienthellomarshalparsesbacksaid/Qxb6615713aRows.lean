/-
  No cell of these rows narrows 'for every input' (looked for: loops, veiled, ifaces, maps, wideKeys, modest, calm, conditions, laid).
  DERIVED. THE GIVEN ROWS OF THIS SEAT. 7 by the template 'for every input the law returns true; each argument reads behind the call as it read before'; 0 by the template 'total and deterministic' (their statements: Qxb6615713aTotals.lean).
  GIVEN WITH THE SEED: the statements are not yours to turn. If you find one false, say at which input.
  Laid BY PROGRAM, IN A SANDBOX (cutbox-rows.mjs): the forced cells as the released guide's own fill.sh prints them over the translation 0d302144ec451977… (all of the seat's roots in one cut). By AI agents, Wed Nov 11 2026. No macro, syntax, notation, axiom, sorry.
-/
import Derived.Test.Qxb6615713aChecked
import GoSem.Claim
import GoSem.ClaimJoined
import GoSem.ClaimMapViews
import Derived.JoinedTies
import Derived.KernelRfl
namespace Go.Proofs.Qxb6615713a
/- THE CELL 'sum', in the pinned program and in every row, IS THE sha256 OF THE DUMP (.gsa) THAT Qxb6615713aProg.lean LOADS. Nothing in Lean hashes anything: it is a label: what it is worth is what the hold of that sum in a sandbox is worth. -/
noncomputable def Try.pinned : Pinned := { name := "qxb6615713a", sum := "0d302144ec4519774478d92229ea48571a2282cef331f3686be6e8cf83a1c54a", checked := Try.checked }
namespace Rows
def none {H : Type} : Left H := { results := [], args := [] }

/-- 'zzlaws_internal_handshake_b1.FnReaderVectorParseThenWriteGivesBack': WHATEVER THE INPUT: true; the input reads as it did. -/
def fnReaderVectorParseThenWriteGivesBackSpec : ChangeSpec := { name := "fnReaderVectorParseThenWriteGivesBack", fn := fun _ => fun
  | [d1, d2, d3] => { results := [.lit (.bool true)], args := [d1, d2, d3] }
  | _ => none }
def fnReaderVectorParseThenWriteGivesBackRow : OpenClaim := { program := "qxb6615713a", sum := "0d302144ec4519774478d92229ea48571a2282cef331f3686be6e8cf83a1c54a", func := "example.com/hushgram/hushgram/zzlaws_internal_handshake_b1.FnReaderVectorParseThenWriteGivesBack", spec := "fnReaderVectorParseThenWriteGivesBack", unfollowed := true, recurses := true, apart := false }
def FnReaderVectorParseThenWriteGivesBackSaid : Prop := fnReaderVectorParseThenWriteGivesBackRow.holds Try.pinned (OpenSpec.ofChange fnReaderVectorParseThenWriteGivesBackSpec)

/-- ITS FALSE NEIGHBOUR: 'it returns false'. Refute it at one input. -/
def fnReaderVectorParseThenWriteGivesBackWrong : ChangeSpec := { name := "fnReaderVectorParseThenWriteGivesBack", fn := fun _ => fun
  | [d1, d2, d3] => { results := [.lit (.bool false)], args := [d1, d2, d3] }
  | _ => none }
def FnReaderVectorParseThenWriteGivesBackWrongFalsely : Prop := fnReaderVectorParseThenWriteGivesBackRow.holds Try.pinned (OpenSpec.ofChange fnReaderVectorParseThenWriteGivesBackWrong)

/-- 'zzlaws_internal_handshake_b1.FnReaderVectorReadsBackTwoWrittenVectors': WHATEVER THE INPUT: true; the input reads as it did. -/
def fnReaderVectorReadsBackTwoWrittenVectorsSpec : ChangeSpec := { name := "fnReaderVectorReadsBackTwoWrittenVectors", fn := fun _ => fun
  | [d1, d2, d3, d4, d5] => { results := [.lit (.bool true)], args := [d1, d2, d3, d4, d5] }
  | _ => none }
def fnReaderVectorReadsBackTwoWrittenVectorsRow : OpenClaim := { program := "qxb6615713a", sum := "0d302144ec4519774478d92229ea48571a2282cef331f3686be6e8cf83a1c54a", func := "example.com/hushgram/hushgram/zzlaws_internal_handshake_b1.FnReaderVectorReadsBackTwoWrittenVectors", spec := "fnReaderVectorReadsBackTwoWrittenVectors", unfollowed := true, recurses := true, apart := false }
def FnReaderVectorReadsBackTwoWrittenVectorsSaid : Prop := fnReaderVectorReadsBackTwoWrittenVectorsRow.holds Try.pinned (OpenSpec.ofChange fnReaderVectorReadsBackTwoWrittenVectorsSpec)

/-- ITS FALSE NEIGHBOUR: 'it returns false'. Refute it at one input. -/
def fnReaderVectorReadsBackTwoWrittenVectorsWrong : ChangeSpec := { name := "fnReaderVectorReadsBackTwoWrittenVectors", fn := fun _ => fun
  | [d1, d2, d3, d4, d5] => { results := [.lit (.bool false)], args := [d1, d2, d3, d4, d5] }
  | _ => none }
def FnReaderVectorReadsBackTwoWrittenVectorsWrongFalsely : Prop := fnReaderVectorReadsBackTwoWrittenVectorsRow.holds Try.pinned (OpenSpec.ofChange fnReaderVectorReadsBackTwoWrittenVectorsWrong)

/-- 'zzlaws_internal_handshake_b1.FnClientHelloMarshalParsesBack': WHATEVER THE INPUT: true; the input reads as it did. -/
def fnClientHelloMarshalParsesBackSpec : ChangeSpec := { name := "fnClientHelloMarshalParsesBack", fn := fun _ => fun
  | [d] => { results := [.lit (.bool true)], args := [d] }
  | _ => none }
def fnClientHelloMarshalParsesBackRow : OpenClaim := { program := "qxb6615713a", sum := "0d302144ec4519774478d92229ea48571a2282cef331f3686be6e8cf83a1c54a", func := "example.com/hushgram/hushgram/zzlaws_internal_handshake_b1.FnClientHelloMarshalParsesBack", spec := "fnClientHelloMarshalParsesBack", unfollowed := true, recurses := true, apart := false }
def FnClientHelloMarshalParsesBackSaid : Prop := fnClientHelloMarshalParsesBackRow.holds Try.pinned (OpenSpec.ofChange fnClientHelloMarshalParsesBackSpec)

/-- ITS FALSE NEIGHBOUR: 'it returns false'. Refute it at one input. -/
def fnClientHelloMarshalParsesBackWrong : ChangeSpec := { name := "fnClientHelloMarshalParsesBack", fn := fun _ => fun
  | [d] => { results := [.lit (.bool false)], args := [d] }
  | _ => none }
def FnClientHelloMarshalParsesBackWrongFalsely : Prop := fnClientHelloMarshalParsesBackRow.holds Try.pinned (OpenSpec.ofChange fnClientHelloMarshalParsesBackWrong)

/-- 'zzlaws_internal_handshake_b1.FnClientHelloMarshalConnectionIDAppendsOneExtension': WHATEVER THE INPUT: true; the input reads as it did. -/
def fnClientHelloMarshalConnectionIDAppendsOneExtensionSpec : ChangeSpec := { name := "fnClientHelloMarshalConnectionIDAppendsOneExtension", fn := fun _ => fun
  | [d] => { results := [.lit (.bool true)], args := [d] }
  | _ => none }
def fnClientHelloMarshalConnectionIDAppendsOneExtensionRow : OpenClaim := { program := "qxb6615713a", sum := "0d302144ec4519774478d92229ea48571a2282cef331f3686be6e8cf83a1c54a", func := "example.com/hushgram/hushgram/zzlaws_internal_handshake_b1.FnClientHelloMarshalConnectionIDAppendsOneExtension", spec := "fnClientHelloMarshalConnectionIDAppendsOneExtension", unfollowed := true, recurses := true, apart := false }
def FnClientHelloMarshalConnectionIDAppendsOneExtensionSaid : Prop := fnClientHelloMarshalConnectionIDAppendsOneExtensionRow.holds Try.pinned (OpenSpec.ofChange fnClientHelloMarshalConnectionIDAppendsOneExtensionSpec)

/-- ITS FALSE NEIGHBOUR: 'it returns false'. Refute it at one input. -/
def fnClientHelloMarshalConnectionIDAppendsOneExtensionWrong : ChangeSpec := { name := "fnClientHelloMarshalConnectionIDAppendsOneExtension", fn := fun _ => fun
  | [d] => { results := [.lit (.bool false)], args := [d] }
  | _ => none }
def FnClientHelloMarshalConnectionIDAppendsOneExtensionWrongFalsely : Prop := fnClientHelloMarshalConnectionIDAppendsOneExtensionRow.holds Try.pinned (OpenSpec.ofChange fnClientHelloMarshalConnectionIDAppendsOneExtensionWrong)

/-- 'zzlaws_internal_handshake_b1.FnEncryptedExtensionsMarshalIsEmptyExtensionBlock': WHATEVER THE INPUT: true; the input reads as it did. -/
def fnEncryptedExtensionsMarshalIsEmptyExtensionBlockSpec : ChangeSpec := { name := "fnEncryptedExtensionsMarshalIsEmptyExtensionBlock", fn := fun _ => fun
  | [] => { results := [.lit (.bool true)], args := [] }
  | _ => none }
def fnEncryptedExtensionsMarshalIsEmptyExtensionBlockRow : OpenClaim := { program := "qxb6615713a", sum := "0d302144ec4519774478d92229ea48571a2282cef331f3686be6e8cf83a1c54a", func := "example.com/hushgram/hushgram/zzlaws_internal_handshake_b1.FnEncryptedExtensionsMarshalIsEmptyExtensionBlock", spec := "fnEncryptedExtensionsMarshalIsEmptyExtensionBlock", unfollowed := true, recurses := true, apart := false }
def FnEncryptedExtensionsMarshalIsEmptyExtensionBlockSaid : Prop := fnEncryptedExtensionsMarshalIsEmptyExtensionBlockRow.holds Try.pinned (OpenSpec.ofChange fnEncryptedExtensionsMarshalIsEmptyExtensionBlockSpec)

/-- ITS FALSE NEIGHBOUR: 'it returns false'. Refute it at one input. -/
def fnEncryptedExtensionsMarshalIsEmptyExtensionBlockWrong : ChangeSpec := { name := "fnEncryptedExtensionsMarshalIsEmptyExtensionBlock", fn := fun _ => fun
  | [] => { results := [.lit (.bool false)], args := [] }
  | _ => none }
def FnEncryptedExtensionsMarshalIsEmptyExtensionBlockWrongFalsely : Prop := fnEncryptedExtensionsMarshalIsEmptyExtensionBlockRow.holds Try.pinned (OpenSpec.ofChange fnEncryptedExtensionsMarshalIsEmptyExtensionBlockWrong)

/-- 'zzlaws_internal_handshake_b1.FnTranscriptSumIsHashOfAllMessagesWhereverHashChosen': WHATEVER THE INPUT: true; the input reads as it did. -/
def fnTranscriptSumIsHashOfAllMessagesWhereverHashChosenSpec : ChangeSpec := { name := "fnTranscriptSumIsHashOfAllMessagesWhereverHashChosen", fn := fun _ => fun
  | [d1, d2] => { results := [.lit (.bool true)], args := [d1, d2] }
  | _ => none }
def fnTranscriptSumIsHashOfAllMessagesWhereverHashChosenRow : OpenClaim := { program := "qxb6615713a", sum := "0d302144ec4519774478d92229ea48571a2282cef331f3686be6e8cf83a1c54a", func := "example.com/hushgram/hushgram/zzlaws_internal_handshake_b1.FnTranscriptSumIsHashOfAllMessagesWhereverHashChosen", spec := "fnTranscriptSumIsHashOfAllMessagesWhereverHashChosen", unfollowed := true, recurses := true, apart := false }
def FnTranscriptSumIsHashOfAllMessagesWhereverHashChosenSaid : Prop := fnTranscriptSumIsHashOfAllMessagesWhereverHashChosenRow.holds Try.pinned (OpenSpec.ofChange fnTranscriptSumIsHashOfAllMessagesWhereverHashChosenSpec)

/-- ITS FALSE NEIGHBOUR: 'it returns false'. Refute it at one input. -/
def fnTranscriptSumIsHashOfAllMessagesWhereverHashChosenWrong : ChangeSpec := { name := "fnTranscriptSumIsHashOfAllMessagesWhereverHashChosen", fn := fun _ => fun
  | [d1, d2] => { results := [.lit (.bool false)], args := [d1, d2] }
  | _ => none }
def FnTranscriptSumIsHashOfAllMessagesWhereverHashChosenWrongFalsely : Prop := fnTranscriptSumIsHashOfAllMessagesWhereverHashChosenRow.holds Try.pinned (OpenSpec.ofChange fnTranscriptSumIsHashOfAllMessagesWhereverHashChosenWrong)

/-- 'zzlaws_internal_handshake_b1.FnTranscriptSumMidwayIsPrefixHashAndLeavesRunningHash': WHATEVER THE INPUT: true; the input reads as it did. -/
def fnTranscriptSumMidwayIsPrefixHashAndLeavesRunningHashSpec : ChangeSpec := { name := "fnTranscriptSumMidwayIsPrefixHashAndLeavesRunningHash", fn := fun _ => fun
  | [d1, d2] => { results := [.lit (.bool true)], args := [d1, d2] }
  | _ => none }
def fnTranscriptSumMidwayIsPrefixHashAndLeavesRunningHashRow : OpenClaim := { program := "qxb6615713a", sum := "0d302144ec4519774478d92229ea48571a2282cef331f3686be6e8cf83a1c54a", func := "example.com/hushgram/hushgram/zzlaws_internal_handshake_b1.FnTranscriptSumMidwayIsPrefixHashAndLeavesRunningHash", spec := "fnTranscriptSumMidwayIsPrefixHashAndLeavesRunningHash", unfollowed := true, recurses := true, apart := false }
def FnTranscriptSumMidwayIsPrefixHashAndLeavesRunningHashSaid : Prop := fnTranscriptSumMidwayIsPrefixHashAndLeavesRunningHashRow.holds Try.pinned (OpenSpec.ofChange fnTranscriptSumMidwayIsPrefixHashAndLeavesRunningHashSpec)

/-- ITS FALSE NEIGHBOUR: 'it returns false'. Refute it at one input. -/
def fnTranscriptSumMidwayIsPrefixHashAndLeavesRunningHashWrong : ChangeSpec := { name := "fnTranscriptSumMidwayIsPrefixHashAndLeavesRunningHash", fn := fun _ => fun
  | [d1, d2] => { results := [.lit (.bool false)], args := [d1, d2] }
  | _ => none }
def FnTranscriptSumMidwayIsPrefixHashAndLeavesRunningHashWrongFalsely : Prop := fnTranscriptSumMidwayIsPrefixHashAndLeavesRunningHashRow.holds Try.pinned (OpenSpec.ofChange fnTranscriptSumMidwayIsPrefixHashAndLeavesRunningHashWrong)

end Rows
end Go.Proofs.Qxb6615713a
