/-
  No cell of these rows narrows 'for every input' (looked for: loops, veiled, ifaces, maps, wideKeys, modest, calm, conditions, laid).
  DERIVED. THE GIVEN ROWS OF THIS SEAT. 4 by the template 'for every input the law returns true; each argument reads behind the call as it read before'; 0 by the template 'total and deterministic' (their statements: Qxb6614548aFmtTotals.lean).
  GIVEN WITH THE SEED: the statements are not yours to turn. If you find one false, say at which input.
  Laid BY PROGRAM, IN A SANDBOX (cutbox-rows.mjs): the forced cells as the released guide's own fill.sh prints them over the translation 2d1e3fccee373a1b… (all of the seat's roots in one cut). By AI agents, Wed Nov 11 2026. No macro, syntax, notation, axiom, sorry.
-/
import Derived.Test.Qxb6614548aFmtChecked
import GoSem.Claim
import GoSem.ClaimJoined
import GoSem.ClaimMapViews
import Derived.JoinedTies
import Derived.KernelRfl
namespace Go.Proofs.Qxb6614548aFmt
/- THE CELL 'sum', in the pinned program and in every row, IS THE sha256 OF THE DUMP (.gsa) THAT Qxb6614548aFmtProg.lean LOADS. Nothing in Lean hashes anything: it is a label: what it is worth is what the hold of that sum in a sandbox is worth. -/
noncomputable def Tryf.pinned : Pinned := { name := "qxb6614548afmt", sum := "2d1e3fccee373a1b3c7b4e5d4d40e9e4d7638e52c11785534e06850511d87655", checked := Tryf.checked }
namespace Rows
def none {H : Type} : Left H := { results := [], args := [] }

/-- 'zzlaws_metainfo_b1.FnSkippedHearsKeyAndCountOnlyPastOne': WHATEVER THE INPUT: true; the input reads as it did. -/
def fnSkippedHearsKeyAndCountOnlyPastOneSpec : ChangeSpec := { name := "fnSkippedHearsKeyAndCountOnlyPastOne", fn := fun _ => fun
  | [d1, d2, d3, d4] => { results := [.lit (.bool true)], args := [d1, d2, d3, d4] }
  | _ => none }
def fnSkippedHearsKeyAndCountOnlyPastOneRow : OpenClaim := { program := "qxb6614548afmt", sum := "2d1e3fccee373a1b3c7b4e5d4d40e9e4d7638e52c11785534e06850511d87655", func := "example.com/swarmwright/swarmwright/zzlaws_metainfo_b1.FnSkippedHearsKeyAndCountOnlyPastOne", spec := "fnSkippedHearsKeyAndCountOnlyPastOne", stops := ["fmt.Sprintf", "fmt.errorf, its operands' methods called"], inPlace := ["fmt.Sprintf"], unfollowed := true, recurses := true, apart := false }
/-- NO THEOREM (fmt's text is open here; it may be false): for the released tool's asking of the row's closed facts alone. THE STATEMENT IS 'FnSkippedHearsKeyAndCountOnlyPastOneToldSaid' (Qxb6614548aFmtCards.lean). -/
def FnSkippedHearsKeyAndCountOnlyPastOneFormAsk : Prop := fnSkippedHearsKeyAndCountOnlyPastOneRow.holds Tryf.pinned (OpenSpec.ofChange fnSkippedHearsKeyAndCountOnlyPastOneSpec)

/-- ITS FALSE NEIGHBOUR: 'it returns false'. Refute it at one input. -/
def fnSkippedHearsKeyAndCountOnlyPastOneWrong : ChangeSpec := { name := "fnSkippedHearsKeyAndCountOnlyPastOne", fn := fun _ => fun
  | [d1, d2, d3, d4] => { results := [.lit (.bool false)], args := [d1, d2, d3, d4] }
  | _ => none }
def FnSkippedHearsKeyAndCountOnlyPastOneWrongFormAsk : Prop := fnSkippedHearsKeyAndCountOnlyPastOneRow.holds Tryf.pinned (OpenSpec.ofChange fnSkippedHearsKeyAndCountOnlyPastOneWrong)

/-- 'zzlaws_metainfo_b1.FnReadTrackersMatchesAByteWalk': WHATEVER THE INPUT: true; the input reads as it did. -/
def fnReadTrackersMatchesAByteWalkSpec : ChangeSpec := { name := "fnReadTrackersMatchesAByteWalk", fn := fun _ => fun
  | [d] => { results := [.lit (.bool true)], args := [d] }
  | _ => none }
def fnReadTrackersMatchesAByteWalkRow : OpenClaim := { program := "qxb6614548afmt", sum := "2d1e3fccee373a1b3c7b4e5d4d40e9e4d7638e52c11785534e06850511d87655", func := "example.com/swarmwright/swarmwright/zzlaws_metainfo_b1.FnReadTrackersMatchesAByteWalk", spec := "fnReadTrackersMatchesAByteWalk", stops := ["fmt.Sprintf", "fmt.errorf, its operands' methods called"], inPlace := ["internal/bytealg.IndexByte", "fmt.errorf", "fmt.Sprintf"], unfollowed := true, recurses := true, apart := false }
/-- NO THEOREM (fmt's text is open here; it may be false): for the released tool's asking of the row's closed facts alone. THE STATEMENT IS 'FnReadTrackersMatchesAByteWalkToldSaid' (Qxb6614548aFmtCards.lean). -/
def FnReadTrackersMatchesAByteWalkFormAsk : Prop := fnReadTrackersMatchesAByteWalkRow.holds Tryf.pinned (OpenSpec.ofChange fnReadTrackersMatchesAByteWalkSpec)

/-- ITS FALSE NEIGHBOUR: 'it returns false'. Refute it at one input. -/
def fnReadTrackersMatchesAByteWalkWrong : ChangeSpec := { name := "fnReadTrackersMatchesAByteWalk", fn := fun _ => fun
  | [d] => { results := [.lit (.bool false)], args := [d] }
  | _ => none }
def FnReadTrackersMatchesAByteWalkWrongFormAsk : Prop := fnReadTrackersMatchesAByteWalkRow.holds Tryf.pinned (OpenSpec.ofChange fnReadTrackersMatchesAByteWalkWrong)

/-- 'zzlaws_metainfo_b1.FnReadTrackersReadsAnnounceOnlyWhereTheListGivesNone': WHATEVER THE INPUT: true; the input reads as it did. -/
def fnReadTrackersReadsAnnounceOnlyWhereTheListGivesNoneSpec : ChangeSpec := { name := "fnReadTrackersReadsAnnounceOnlyWhereTheListGivesNone", fn := fun _ => fun
  | [d1, d2] => { results := [.lit (.bool true)], args := [d1, d2] }
  | _ => none }
def fnReadTrackersReadsAnnounceOnlyWhereTheListGivesNoneRow : OpenClaim := { program := "qxb6614548afmt", sum := "2d1e3fccee373a1b3c7b4e5d4d40e9e4d7638e52c11785534e06850511d87655", func := "example.com/swarmwright/swarmwright/zzlaws_metainfo_b1.FnReadTrackersReadsAnnounceOnlyWhereTheListGivesNone", spec := "fnReadTrackersReadsAnnounceOnlyWhereTheListGivesNone", stops := ["fmt.Sprintf", "fmt.errorf, its operands' methods called"], inPlace := ["internal/bytealg.IndexByte", "fmt.errorf", "fmt.Sprintf"], unfollowed := true, recurses := true, apart := false }
/-- NO THEOREM (fmt's text is open here; it may be false): for the released tool's asking of the row's closed facts alone. THE STATEMENT IS 'FnReadTrackersReadsAnnounceOnlyWhereTheListGivesNoneToldSaid' (Qxb6614548aFmtCards.lean). -/
def FnReadTrackersReadsAnnounceOnlyWhereTheListGivesNoneFormAsk : Prop := fnReadTrackersReadsAnnounceOnlyWhereTheListGivesNoneRow.holds Tryf.pinned (OpenSpec.ofChange fnReadTrackersReadsAnnounceOnlyWhereTheListGivesNoneSpec)

/-- ITS FALSE NEIGHBOUR: 'it returns false'. Refute it at one input. -/
def fnReadTrackersReadsAnnounceOnlyWhereTheListGivesNoneWrong : ChangeSpec := { name := "fnReadTrackersReadsAnnounceOnlyWhereTheListGivesNone", fn := fun _ => fun
  | [d1, d2] => { results := [.lit (.bool false)], args := [d1, d2] }
  | _ => none }
def FnReadTrackersReadsAnnounceOnlyWhereTheListGivesNoneWrongFormAsk : Prop := fnReadTrackersReadsAnnounceOnlyWhereTheListGivesNoneRow.holds Tryf.pinned (OpenSpec.ofChange fnReadTrackersReadsAnnounceOnlyWhereTheListGivesNoneWrong)

/-- 'zzlaws_metainfo_b1.FnTextGivesEachURLOfATierInOrder': WHATEVER THE INPUT: true; the input reads as it did. -/
def fnTextGivesEachURLOfATierInOrderSpec : ChangeSpec := { name := "fnTextGivesEachURLOfATierInOrder", fn := fun _ => fun
  | [d] => { results := [.lit (.bool true)], args := [d] }
  | _ => none }
def fnTextGivesEachURLOfATierInOrderRow : OpenClaim := { program := "qxb6614548afmt", sum := "2d1e3fccee373a1b3c7b4e5d4d40e9e4d7638e52c11785534e06850511d87655", func := "example.com/swarmwright/swarmwright/zzlaws_metainfo_b1.FnTextGivesEachURLOfATierInOrder", spec := "fnTextGivesEachURLOfATierInOrder", stops := ["fmt.Sprintf", "fmt.errorf, its operands' methods called"], inPlace := ["internal/bytealg.IndexByte", "fmt.errorf", "fmt.Sprintf"], unfollowed := true, recurses := true, apart := false }
/-- NO THEOREM (fmt's text is open here; it may be false): for the released tool's asking of the row's closed facts alone. THE STATEMENT IS 'FnTextGivesEachURLOfATierInOrderToldSaid' (Qxb6614548aFmtCards.lean). -/
def FnTextGivesEachURLOfATierInOrderFormAsk : Prop := fnTextGivesEachURLOfATierInOrderRow.holds Tryf.pinned (OpenSpec.ofChange fnTextGivesEachURLOfATierInOrderSpec)

/-- ITS FALSE NEIGHBOUR: 'it returns false'. Refute it at one input. -/
def fnTextGivesEachURLOfATierInOrderWrong : ChangeSpec := { name := "fnTextGivesEachURLOfATierInOrder", fn := fun _ => fun
  | [d] => { results := [.lit (.bool false)], args := [d] }
  | _ => none }
def FnTextGivesEachURLOfATierInOrderWrongFormAsk : Prop := fnTextGivesEachURLOfATierInOrderRow.holds Tryf.pinned (OpenSpec.ofChange fnTextGivesEachURLOfATierInOrderWrong)

end Rows
end Go.Proofs.Qxb6614548aFmt
