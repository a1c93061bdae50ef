/-
  DERIVED. GIVEN WITH THE SEED: THE CARDS: each row of Qxb6614548aFmtRows.lean that lists a variable, with what it lists TIED to the program's text (the seventh form; the later family's looks); each row that meets fmt, with fmt's text TOLD by the authors' own Lean function (tested against real Go, not proved from fmt's source: count such statements apart). THE CARD IS WHAT COUNTS. Prove the row's statement (the work); the ties are given (Qxb6614548aFmtTie.lean); close each card by the builder's one call (the guide's Derived/Test/ToyasCard.lean, 'card_holds'). Laid BY PROGRAM, IN A SANDBOX (cutbox-door.mjs). By AI agents, Wed Nov 11 2026. No macro, syntax, notation, axiom, sorry.
-/
import Derived.Test.Qxb6614548aFmtRows
import GoSem.ClaimSeven
namespace Go.Proofs.Qxb6614548aFmt
namespace Rows

/-- THE TOLD CARD OF 'zzlaws_metainfo_b1.FnSkippedHearsKeyAndCountOnlyPastOne'. -/
def fnSkippedHearsKeyAndCountOnlyPastOneCard : Claim7 := { stood := { row := fnSkippedHearsKeyAndCountOnlyPastOneRow, standIns := [], harness := (true, "0ca845c0c92882ec3f0cc3214649a3df630370e2557c60c85619475370ce2698"), looks := false }, told := true, goes := false }
def FnSkippedHearsKeyAndCountOnlyPastOneToldSaid : Prop := Claim7.holds Tryf.pinned (.plain (OpenSpec.ofChange fnSkippedHearsKeyAndCountOnlyPastOneSpec)) fnSkippedHearsKeyAndCountOnlyPastOneCard
/-- ITS FALSE NEIGHBOUR. Refute it at one input. -/
def FnSkippedHearsKeyAndCountOnlyPastOneToldWrongFalsely : Prop := Claim7.holds Tryf.pinned (.plain (OpenSpec.ofChange fnSkippedHearsKeyAndCountOnlyPastOneWrong)) fnSkippedHearsKeyAndCountOnlyPastOneCard

/-- THE TOLD CARD OF 'zzlaws_metainfo_b1.FnReadTrackersMatchesAByteWalk'. -/
def fnReadTrackersMatchesAByteWalkCard : Claim7 := { stood := { row := fnReadTrackersMatchesAByteWalkRow, standIns := [], harness := (true, "0ca845c0c92882ec3f0cc3214649a3df630370e2557c60c85619475370ce2698"), looks := false }, told := true, goes := false }
def FnReadTrackersMatchesAByteWalkToldSaid : Prop := Claim7.holds Tryf.pinned (.plain (OpenSpec.ofChange fnReadTrackersMatchesAByteWalkSpec)) fnReadTrackersMatchesAByteWalkCard
/-- ITS FALSE NEIGHBOUR. Refute it at one input. -/
def FnReadTrackersMatchesAByteWalkToldWrongFalsely : Prop := Claim7.holds Tryf.pinned (.plain (OpenSpec.ofChange fnReadTrackersMatchesAByteWalkWrong)) fnReadTrackersMatchesAByteWalkCard

/-- THE TOLD CARD OF 'zzlaws_metainfo_b1.FnReadTrackersReadsAnnounceOnlyWhereTheListGivesNone'. -/
def fnReadTrackersReadsAnnounceOnlyWhereTheListGivesNoneCard : Claim7 := { stood := { row := fnReadTrackersReadsAnnounceOnlyWhereTheListGivesNoneRow, standIns := [], harness := (true, "0ca845c0c92882ec3f0cc3214649a3df630370e2557c60c85619475370ce2698"), looks := false }, told := true, goes := false }
def FnReadTrackersReadsAnnounceOnlyWhereTheListGivesNoneToldSaid : Prop := Claim7.holds Tryf.pinned (.plain (OpenSpec.ofChange fnReadTrackersReadsAnnounceOnlyWhereTheListGivesNoneSpec)) fnReadTrackersReadsAnnounceOnlyWhereTheListGivesNoneCard
/-- ITS FALSE NEIGHBOUR. Refute it at one input. -/
def FnReadTrackersReadsAnnounceOnlyWhereTheListGivesNoneToldWrongFalsely : Prop := Claim7.holds Tryf.pinned (.plain (OpenSpec.ofChange fnReadTrackersReadsAnnounceOnlyWhereTheListGivesNoneWrong)) fnReadTrackersReadsAnnounceOnlyWhereTheListGivesNoneCard

/-- THE TOLD CARD OF 'zzlaws_metainfo_b1.FnTextGivesEachURLOfATierInOrder'. -/
def fnTextGivesEachURLOfATierInOrderCard : Claim7 := { stood := { row := fnTextGivesEachURLOfATierInOrderRow, standIns := [], harness := (true, "0ca845c0c92882ec3f0cc3214649a3df630370e2557c60c85619475370ce2698"), looks := false }, told := true, goes := false }
def FnTextGivesEachURLOfATierInOrderToldSaid : Prop := Claim7.holds Tryf.pinned (.plain (OpenSpec.ofChange fnTextGivesEachURLOfATierInOrderSpec)) fnTextGivesEachURLOfATierInOrderCard
/-- ITS FALSE NEIGHBOUR. Refute it at one input. -/
def FnTextGivesEachURLOfATierInOrderToldWrongFalsely : Prop := Claim7.holds Tryf.pinned (.plain (OpenSpec.ofChange fnTextGivesEachURLOfATierInOrderWrong)) fnTextGivesEachURLOfATierInOrderCard
end Rows
end Go.Proofs.Qxb6614548aFmt
