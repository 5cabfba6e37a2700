/-
  DERIVED. GIVEN WITH THE SEED: THE CARDS: each row of Qxb6003321aFmtRows.lean that lists a variable, with what it lists TIED to the program's text (the seventh form; the later family's looks); each row that meets fmt, with fmt's text TOLD by the authors' own Lean function (tested against real Go, not proved from fmt's source: count such statements apart). THE CARD IS WHAT COUNTS. Prove the row's statement (the work); the ties are given (Qxb6003321aFmtTie.lean); close each card by the builder's one call (the guide's Derived/Test/ToyasCard.lean, 'card_holds'). Laid BY PROGRAM, IN A SANDBOX (cutbox-door.mjs). By AI agents, Wed Nov 11 2026. No macro, syntax, notation, axiom, sorry.
-/
import Derived.Test.Qxb6003321aFmtRows
import GoSem.ClaimSeven
namespace Go.Proofs.Qxb6003321aFmt
namespace Rows

/-- THE TOLD CARD OF 'zzlaws_adversary_g1.FnMostReplacedIsJoinThreshold'. -/
def fnMostReplacedIsJoinThresholdCard : Claim7 := { stood := { row := fnMostReplacedIsJoinThresholdRow, standIns := [], harness := (true, "acdf1e4a27406cf1e02b564a2788d2d5c5a9efdbd21824a6bd71730656c13e98"), looks := false }, told := true, goes := false }
def FnMostReplacedIsJoinThresholdToldSaid : Prop := Claim7.holds Tryf.pinned (.plain (OpenSpec.ofChange fnMostReplacedIsJoinThresholdSpec)) fnMostReplacedIsJoinThresholdCard
/-- ITS FALSE NEIGHBOUR. Refute it at one input. -/
def FnMostReplacedIsJoinThresholdToldWrongFalsely : Prop := Claim7.holds Tryf.pinned (.plain (OpenSpec.ofChange fnMostReplacedIsJoinThresholdWrong)) fnMostReplacedIsJoinThresholdCard

/-- THE TOLD CARD OF 'zzlaws_adversary_g1.FnSettingsCheckExact'. -/
def fnSettingsCheckExactCard : Claim7 := { stood := { row := fnSettingsCheckExactRow, standIns := [], harness := (true, "acdf1e4a27406cf1e02b564a2788d2d5c5a9efdbd21824a6bd71730656c13e98"), looks := false }, told := true, goes := false }
def FnSettingsCheckExactToldSaid : Prop := Claim7.holds Tryf.pinned (.plain (OpenSpec.ofChange fnSettingsCheckExactSpec)) fnSettingsCheckExactCard
/-- ITS FALSE NEIGHBOUR. Refute it at one input. -/
def FnSettingsCheckExactToldWrongFalsely : Prop := Claim7.holds Tryf.pinned (.plain (OpenSpec.ofChange fnSettingsCheckExactWrong)) fnSettingsCheckExactCard

/-- THE TOLD CARD OF 'zzlaws_adversary_g1.FnTrackerAgreesWithRoundModel'. -/
def fnTrackerAgreesWithRoundModelCard : Claim7 := { stood := { row := fnTrackerAgreesWithRoundModelRow, standIns := [], harness := (true, "acdf1e4a27406cf1e02b564a2788d2d5c5a9efdbd21824a6bd71730656c13e98"), looks := false }, told := true, goes := false }
def FnTrackerAgreesWithRoundModelToldSaid : Prop := Claim7.holds Tryf.pinned (.plain (OpenSpec.ofChange fnTrackerAgreesWithRoundModelSpec)) fnTrackerAgreesWithRoundModelCard
/-- ITS FALSE NEIGHBOUR. Refute it at one input. -/
def FnTrackerAgreesWithRoundModelToldWrongFalsely : Prop := Claim7.holds Tryf.pinned (.plain (OpenSpec.ofChange fnTrackerAgreesWithRoundModelWrong)) fnTrackerAgreesWithRoundModelCard

/-- THE TOLD CARD OF 'zzlaws_committees_g1.FnPublishedCellsAreSound'. -/
def fnPublishedCellsAreSoundCard : Claim7 := { stood := { row := fnPublishedCellsAreSoundRow, standIns := [], harness := (true, "acdf1e4a27406cf1e02b564a2788d2d5c5a9efdbd21824a6bd71730656c13e98"), looks := false }, told := true, goes := false }
def FnPublishedCellsAreSoundToldSaid : Prop := Claim7.holds Tryf.pinned (.plain (OpenSpec.ofChange fnPublishedCellsAreSoundSpec)) fnPublishedCellsAreSoundCard
/-- ITS FALSE NEIGHBOUR. Refute it at one input. -/
def FnPublishedCellsAreSoundToldWrongFalsely : Prop := Claim7.holds Tryf.pinned (.plain (OpenSpec.ofChange fnPublishedCellsAreSoundWrong)) fnPublishedCellsAreSoundCard

/-- THE TOLD CARD OF 'zzlaws_committees_g1.FnCheckAcceptsABox'. -/
def fnCheckAcceptsABoxCard : Claim7 := { stood := { row := fnCheckAcceptsABoxRow, standIns := [], harness := (true, "acdf1e4a27406cf1e02b564a2788d2d5c5a9efdbd21824a6bd71730656c13e98"), looks := false }, told := true, goes := false }
def FnCheckAcceptsABoxToldSaid : Prop := Claim7.holds Tryf.pinned (.plain (OpenSpec.ofChange fnCheckAcceptsABoxSpec)) fnCheckAcceptsABoxCard
/-- ITS FALSE NEIGHBOUR. Refute it at one input. -/
def FnCheckAcceptsABoxToldWrongFalsely : Prop := Claim7.holds Tryf.pinned (.plain (OpenSpec.ofChange fnCheckAcceptsABoxWrong)) fnCheckAcceptsABoxCard

/-- THE TOLD CARD OF 'zzlaws_cyclon_g1.FnCyclonCheckIgnoresAttachCap'. -/
def fnCyclonCheckIgnoresAttachCapCard : Claim7 := { stood := { row := fnCyclonCheckIgnoresAttachCapRow, standIns := [], harness := (true, "acdf1e4a27406cf1e02b564a2788d2d5c5a9efdbd21824a6bd71730656c13e98"), looks := false }, told := true, goes := false }
def FnCyclonCheckIgnoresAttachCapToldSaid : Prop := Claim7.holds Tryf.pinned (.plain (OpenSpec.ofChange fnCyclonCheckIgnoresAttachCapSpec)) fnCyclonCheckIgnoresAttachCapCard
/-- ITS FALSE NEIGHBOUR. Refute it at one input. -/
def FnCyclonCheckIgnoresAttachCapToldWrongFalsely : Prop := Claim7.holds Tryf.pinned (.plain (OpenSpec.ofChange fnCyclonCheckIgnoresAttachCapWrong)) fnCyclonCheckIgnoresAttachCapCard

/-- THE TOLD CARD OF 'zzlaws_cyclon_g1.FnCyclonCheckDownClosed'. -/
def fnCyclonCheckDownClosedCard : Claim7 := { stood := { row := fnCyclonCheckDownClosedRow, standIns := [], harness := (true, "acdf1e4a27406cf1e02b564a2788d2d5c5a9efdbd21824a6bd71730656c13e98"), looks := false }, told := true, goes := false }
def FnCyclonCheckDownClosedToldSaid : Prop := Claim7.holds Tryf.pinned (.plain (OpenSpec.ofChange fnCyclonCheckDownClosedSpec)) fnCyclonCheckDownClosedCard
/-- ITS FALSE NEIGHBOUR. Refute it at one input. -/
def FnCyclonCheckDownClosedToldWrongFalsely : Prop := Claim7.holds Tryf.pinned (.plain (OpenSpec.ofChange fnCyclonCheckDownClosedWrong)) fnCyclonCheckDownClosedCard

/-- THE TOLD CARD OF 'zzlaws_expander_g1.FnDefaultsAcceptedExactlyPastMaturity'. -/
def fnDefaultsAcceptedExactlyPastMaturityCard : Claim7 := { stood := { row := fnDefaultsAcceptedExactlyPastMaturityRow, standIns := [], harness := (true, "acdf1e4a27406cf1e02b564a2788d2d5c5a9efdbd21824a6bd71730656c13e98"), looks := false }, told := true, goes := false }
def FnDefaultsAcceptedExactlyPastMaturityToldSaid : Prop := Claim7.holds Tryf.pinned (.plain (OpenSpec.ofChange fnDefaultsAcceptedExactlyPastMaturitySpec)) fnDefaultsAcceptedExactlyPastMaturityCard
/-- ITS FALSE NEIGHBOUR. Refute it at one input. -/
def FnDefaultsAcceptedExactlyPastMaturityToldWrongFalsely : Prop := Claim7.holds Tryf.pinned (.plain (OpenSpec.ofChange fnDefaultsAcceptedExactlyPastMaturityWrong)) fnDefaultsAcceptedExactlyPastMaturityCard
end Rows
end Go.Proofs.Qxb6003321aFmt
