/-
  No cell of these rows narrows 'for every input' (looked for: loops, veiled, ifaces, maps, wideKeys, modest, calm, conditions, laid).
  DERIVED. THE GIVEN ROWS OF THIS SEAT. 8 by the template 'for every input the law returns true; each argument reads behind the call as it read before'; 0 by the template 'total and deterministic' (their statements: Qxb6003321aFmtTotals.lean).
  GIVEN WITH THE SEED: the statements are not yours to turn. If you find one false, say at which input.
  Laid BY PROGRAM, IN A SANDBOX (cutbox-rows.mjs): the forced cells as the released guide's own fill.sh prints them over the translation e4d2df46dbdd1bdb… (all of the seat's roots in one cut). By AI agents, Wed Nov 11 2026. No macro, syntax, notation, axiom, sorry.
-/
import Derived.Test.Qxb6003321aFmtChecked
import GoSem.Claim
import GoSem.ClaimJoined
import GoSem.ClaimMapViews
import Derived.JoinedTies
import Derived.KernelRfl
namespace Go.Proofs.Qxb6003321aFmt
/- THE CELL 'sum', in the pinned program and in every row, IS THE sha256 OF THE DUMP (.gsa) THAT Qxb6003321aFmtProg.lean LOADS. Nothing in Lean hashes anything: it is a label: what it is worth is what the hold of that sum in a sandbox is worth. -/
noncomputable def Tryf.pinned : Pinned := { name := "qxb6003321afmt", sum := "e4d2df46dbdd1bdb64e42b6003d72bbbbb1f68a2d9529f625bad94193fd235b7", checked := Tryf.checked }
namespace Rows
def none {H : Type} : Left H := { results := [], args := [] }

/-- 'zzlaws_adversary_g1.FnMostReplacedIsJoinThreshold': WHATEVER THE INPUT: true; the input reads as it did. -/
def fnMostReplacedIsJoinThresholdSpec : ChangeSpec := { name := "fnMostReplacedIsJoinThreshold", fn := fun _ => fun
  | [d1, d2, d3] => { results := [.lit (.bool true)], args := [d1, d2, d3] }
  | _ => none }
def fnMostReplacedIsJoinThresholdRow : OpenClaim := { program := "qxb6003321afmt", sum := "e4d2df46dbdd1bdb64e42b6003d72bbbbb1f68a2d9529f625bad94193fd235b7", func := "example.com/churnweave/churnweave/zzlaws_adversary_g1.FnMostReplacedIsJoinThreshold", spec := "fnMostReplacedIsJoinThreshold", stops := ["fmt.errorf"], inPlace := ["fmt.errorf"], apart := false }
/-- NO THEOREM (fmt's text is open here; it may be false): for the released tool's asking of the row's closed facts alone. THE STATEMENT IS 'FnMostReplacedIsJoinThresholdToldSaid' (Qxb6003321aFmtCards.lean). -/
def FnMostReplacedIsJoinThresholdFormAsk : Prop := fnMostReplacedIsJoinThresholdRow.holds Tryf.pinned (OpenSpec.ofChange fnMostReplacedIsJoinThresholdSpec)

/-- ITS FALSE NEIGHBOUR: 'it returns false'. Refute it at one input. -/
def fnMostReplacedIsJoinThresholdWrong : ChangeSpec := { name := "fnMostReplacedIsJoinThreshold", fn := fun _ => fun
  | [d1, d2, d3] => { results := [.lit (.bool false)], args := [d1, d2, d3] }
  | _ => none }
def FnMostReplacedIsJoinThresholdWrongFormAsk : Prop := fnMostReplacedIsJoinThresholdRow.holds Tryf.pinned (OpenSpec.ofChange fnMostReplacedIsJoinThresholdWrong)

/-- 'zzlaws_adversary_g1.FnSettingsCheckExact': WHATEVER THE INPUT: true; the input reads as it did. -/
def fnSettingsCheckExactSpec : ChangeSpec := { name := "fnSettingsCheckExact", fn := fun _ => fun
  | [d1, d2, d3, d4, d5] => { results := [.lit (.bool true)], args := [d1, d2, d3, d4, d5] }
  | _ => none }
def fnSettingsCheckExactRow : OpenClaim := { program := "qxb6003321afmt", sum := "e4d2df46dbdd1bdb64e42b6003d72bbbbb1f68a2d9529f625bad94193fd235b7", func := "example.com/churnweave/churnweave/zzlaws_adversary_g1.FnSettingsCheckExact", spec := "fnSettingsCheckExact", stops := ["fmt.errorf"], inPlace := ["fmt.errorf"], apart := false }
/-- NO THEOREM (fmt's text is open here; it may be false): for the released tool's asking of the row's closed facts alone. THE STATEMENT IS 'FnSettingsCheckExactToldSaid' (Qxb6003321aFmtCards.lean). -/
def FnSettingsCheckExactFormAsk : Prop := fnSettingsCheckExactRow.holds Tryf.pinned (OpenSpec.ofChange fnSettingsCheckExactSpec)

/-- ITS FALSE NEIGHBOUR: 'it returns false'. Refute it at one input. -/
def fnSettingsCheckExactWrong : ChangeSpec := { name := "fnSettingsCheckExact", fn := fun _ => fun
  | [d1, d2, d3, d4, d5] => { results := [.lit (.bool false)], args := [d1, d2, d3, d4, d5] }
  | _ => none }
def FnSettingsCheckExactWrongFormAsk : Prop := fnSettingsCheckExactRow.holds Tryf.pinned (OpenSpec.ofChange fnSettingsCheckExactWrong)

/-- 'zzlaws_adversary_g1.FnTrackerAgreesWithRoundModel': WHATEVER THE INPUT: true; the input reads as it did. -/
def fnTrackerAgreesWithRoundModelSpec : ChangeSpec := { name := "fnTrackerAgreesWithRoundModel", fn := fun _ => fun
  | [d1, d2, d3, d4, d5] => { results := [.lit (.bool true)], args := [d1, d2, d3, d4, d5] }
  | _ => none }
def fnTrackerAgreesWithRoundModelRow : OpenClaim := { program := "qxb6003321afmt", sum := "e4d2df46dbdd1bdb64e42b6003d72bbbbb1f68a2d9529f625bad94193fd235b7", func := "example.com/churnweave/churnweave/zzlaws_adversary_g1.FnTrackerAgreesWithRoundModel", spec := "fnTrackerAgreesWithRoundModel", stops := ["fmt.errorf"], inPlace := ["fmt.errorf"], apart := false }
/-- NO THEOREM (fmt's text is open here; it may be false): for the released tool's asking of the row's closed facts alone. THE STATEMENT IS 'FnTrackerAgreesWithRoundModelToldSaid' (Qxb6003321aFmtCards.lean). -/
def FnTrackerAgreesWithRoundModelFormAsk : Prop := fnTrackerAgreesWithRoundModelRow.holds Tryf.pinned (OpenSpec.ofChange fnTrackerAgreesWithRoundModelSpec)

/-- ITS FALSE NEIGHBOUR: 'it returns false'. Refute it at one input. -/
def fnTrackerAgreesWithRoundModelWrong : ChangeSpec := { name := "fnTrackerAgreesWithRoundModel", fn := fun _ => fun
  | [d1, d2, d3, d4, d5] => { results := [.lit (.bool false)], args := [d1, d2, d3, d4, d5] }
  | _ => none }
def FnTrackerAgreesWithRoundModelWrongFormAsk : Prop := fnTrackerAgreesWithRoundModelRow.holds Tryf.pinned (OpenSpec.ofChange fnTrackerAgreesWithRoundModelWrong)

/-- 'zzlaws_committees_g1.FnPublishedCellsAreSound': WHATEVER THE INPUT: true; the input reads as it did. -/
def fnPublishedCellsAreSoundSpec : ChangeSpec := { name := "fnPublishedCellsAreSound", fn := fun _ => fun
  | [] => { results := [.lit (.bool true)], args := [] }
  | _ => none }
def fnPublishedCellsAreSoundRow : OpenClaim := { program := "qxb6003321afmt", sum := "e4d2df46dbdd1bdb64e42b6003d72bbbbb1f68a2d9529f625bad94193fd235b7", func := "example.com/churnweave/churnweave/zzlaws_committees_g1.FnPublishedCellsAreSound", spec := "fnPublishedCellsAreSound", stops := ["fmt.errorf"], inPlace := ["fmt.errorf"], apart := false }
/-- NO THEOREM (fmt's text is open here; it may be false): for the released tool's asking of the row's closed facts alone. THE STATEMENT IS 'FnPublishedCellsAreSoundToldSaid' (Qxb6003321aFmtCards.lean). -/
def FnPublishedCellsAreSoundFormAsk : Prop := fnPublishedCellsAreSoundRow.holds Tryf.pinned (OpenSpec.ofChange fnPublishedCellsAreSoundSpec)

/-- ITS FALSE NEIGHBOUR: 'it returns false'. Refute it at one input. -/
def fnPublishedCellsAreSoundWrong : ChangeSpec := { name := "fnPublishedCellsAreSound", fn := fun _ => fun
  | [] => { results := [.lit (.bool false)], args := [] }
  | _ => none }
def FnPublishedCellsAreSoundWrongFormAsk : Prop := fnPublishedCellsAreSoundRow.holds Tryf.pinned (OpenSpec.ofChange fnPublishedCellsAreSoundWrong)

/-- 'zzlaws_committees_g1.FnCheckAcceptsABox': WHATEVER THE INPUT: true; the input reads as it did. -/
def fnCheckAcceptsABoxSpec : ChangeSpec := { name := "fnCheckAcceptsABox", fn := fun _ => fun
  | [d1, d2, d3, d4, d5, d6, d7, d8, d9, d10, d11, d12] => { results := [.lit (.bool true)], args := [d1, d2, d3, d4, d5, d6, d7, d8, d9, d10, d11, d12] }
  | _ => none }
def fnCheckAcceptsABoxRow : OpenClaim := { program := "qxb6003321afmt", sum := "e4d2df46dbdd1bdb64e42b6003d72bbbbb1f68a2d9529f625bad94193fd235b7", func := "example.com/churnweave/churnweave/zzlaws_committees_g1.FnCheckAcceptsABox", spec := "fnCheckAcceptsABox", stops := ["fmt.errorf"], inPlace := ["fmt.errorf"], apart := false }
/-- NO THEOREM (fmt's text is open here; it may be false): for the released tool's asking of the row's closed facts alone. THE STATEMENT IS 'FnCheckAcceptsABoxToldSaid' (Qxb6003321aFmtCards.lean). -/
def FnCheckAcceptsABoxFormAsk : Prop := fnCheckAcceptsABoxRow.holds Tryf.pinned (OpenSpec.ofChange fnCheckAcceptsABoxSpec)

/-- ITS FALSE NEIGHBOUR: 'it returns false'. Refute it at one input. -/
def fnCheckAcceptsABoxWrong : ChangeSpec := { name := "fnCheckAcceptsABox", fn := fun _ => fun
  | [d1, d2, d3, d4, d5, d6, d7, d8, d9, d10, d11, d12] => { results := [.lit (.bool false)], args := [d1, d2, d3, d4, d5, d6, d7, d8, d9, d10, d11, d12] }
  | _ => none }
def FnCheckAcceptsABoxWrongFormAsk : Prop := fnCheckAcceptsABoxRow.holds Tryf.pinned (OpenSpec.ofChange fnCheckAcceptsABoxWrong)

/-- 'zzlaws_cyclon_g1.FnCyclonCheckIgnoresAttachCap': WHATEVER THE INPUT: true; the input reads as it did. -/
def fnCyclonCheckIgnoresAttachCapSpec : ChangeSpec := { name := "fnCyclonCheckIgnoresAttachCap", fn := fun _ => fun
  | [d1, d2, d3, d4] => { results := [.lit (.bool true)], args := [d1, d2, d3, d4] }
  | _ => none }
def fnCyclonCheckIgnoresAttachCapRow : OpenClaim := { program := "qxb6003321afmt", sum := "e4d2df46dbdd1bdb64e42b6003d72bbbbb1f68a2d9529f625bad94193fd235b7", func := "example.com/churnweave/churnweave/zzlaws_cyclon_g1.FnCyclonCheckIgnoresAttachCap", spec := "fnCyclonCheckIgnoresAttachCap", stops := ["fmt.errorf"], inPlace := ["fmt.errorf"], apart := false }
/-- NO THEOREM (fmt's text is open here; it may be false): for the released tool's asking of the row's closed facts alone. THE STATEMENT IS 'FnCyclonCheckIgnoresAttachCapToldSaid' (Qxb6003321aFmtCards.lean). -/
def FnCyclonCheckIgnoresAttachCapFormAsk : Prop := fnCyclonCheckIgnoresAttachCapRow.holds Tryf.pinned (OpenSpec.ofChange fnCyclonCheckIgnoresAttachCapSpec)

/-- ITS FALSE NEIGHBOUR: 'it returns false'. Refute it at one input. -/
def fnCyclonCheckIgnoresAttachCapWrong : ChangeSpec := { name := "fnCyclonCheckIgnoresAttachCap", fn := fun _ => fun
  | [d1, d2, d3, d4] => { results := [.lit (.bool false)], args := [d1, d2, d3, d4] }
  | _ => none }
def FnCyclonCheckIgnoresAttachCapWrongFormAsk : Prop := fnCyclonCheckIgnoresAttachCapRow.holds Tryf.pinned (OpenSpec.ofChange fnCyclonCheckIgnoresAttachCapWrong)

/-- 'zzlaws_cyclon_g1.FnCyclonCheckDownClosed': WHATEVER THE INPUT: true; the input reads as it did. -/
def fnCyclonCheckDownClosedSpec : ChangeSpec := { name := "fnCyclonCheckDownClosed", fn := fun _ => fun
  | [d1, d2, d3, d4, d5] => { results := [.lit (.bool true)], args := [d1, d2, d3, d4, d5] }
  | _ => none }
def fnCyclonCheckDownClosedRow : OpenClaim := { program := "qxb6003321afmt", sum := "e4d2df46dbdd1bdb64e42b6003d72bbbbb1f68a2d9529f625bad94193fd235b7", func := "example.com/churnweave/churnweave/zzlaws_cyclon_g1.FnCyclonCheckDownClosed", spec := "fnCyclonCheckDownClosed", stops := ["fmt.errorf"], inPlace := ["fmt.errorf"], apart := false }
/-- NO THEOREM (fmt's text is open here; it may be false): for the released tool's asking of the row's closed facts alone. THE STATEMENT IS 'FnCyclonCheckDownClosedToldSaid' (Qxb6003321aFmtCards.lean). -/
def FnCyclonCheckDownClosedFormAsk : Prop := fnCyclonCheckDownClosedRow.holds Tryf.pinned (OpenSpec.ofChange fnCyclonCheckDownClosedSpec)

/-- ITS FALSE NEIGHBOUR: 'it returns false'. Refute it at one input. -/
def fnCyclonCheckDownClosedWrong : ChangeSpec := { name := "fnCyclonCheckDownClosed", fn := fun _ => fun
  | [d1, d2, d3, d4, d5] => { results := [.lit (.bool false)], args := [d1, d2, d3, d4, d5] }
  | _ => none }
def FnCyclonCheckDownClosedWrongFormAsk : Prop := fnCyclonCheckDownClosedRow.holds Tryf.pinned (OpenSpec.ofChange fnCyclonCheckDownClosedWrong)

/-- 'zzlaws_expander_g1.FnDefaultsAcceptedExactlyPastMaturity': WHATEVER THE INPUT: true; the input reads as it did. -/
def fnDefaultsAcceptedExactlyPastMaturitySpec : ChangeSpec := { name := "fnDefaultsAcceptedExactlyPastMaturity", fn := fun _ => fun
  | [d1, d2] => { results := [.lit (.bool true)], args := [d1, d2] }
  | _ => none }
def fnDefaultsAcceptedExactlyPastMaturityRow : OpenClaim := { program := "qxb6003321afmt", sum := "e4d2df46dbdd1bdb64e42b6003d72bbbbb1f68a2d9529f625bad94193fd235b7", func := "example.com/churnweave/churnweave/zzlaws_expander_g1.FnDefaultsAcceptedExactlyPastMaturity", spec := "fnDefaultsAcceptedExactlyPastMaturity", stops := ["fmt.errorf"], inPlace := ["fmt.errorf"], apart := false }
/-- NO THEOREM (fmt's text is open here; it may be false): for the released tool's asking of the row's closed facts alone. THE STATEMENT IS 'FnDefaultsAcceptedExactlyPastMaturityToldSaid' (Qxb6003321aFmtCards.lean). -/
def FnDefaultsAcceptedExactlyPastMaturityFormAsk : Prop := fnDefaultsAcceptedExactlyPastMaturityRow.holds Tryf.pinned (OpenSpec.ofChange fnDefaultsAcceptedExactlyPastMaturitySpec)

/-- ITS FALSE NEIGHBOUR: 'it returns false'. Refute it at one input. -/
def fnDefaultsAcceptedExactlyPastMaturityWrong : ChangeSpec := { name := "fnDefaultsAcceptedExactlyPastMaturity", fn := fun _ => fun
  | [d1, d2] => { results := [.lit (.bool false)], args := [d1, d2] }
  | _ => none }
def FnDefaultsAcceptedExactlyPastMaturityWrongFormAsk : Prop := fnDefaultsAcceptedExactlyPastMaturityRow.holds Tryf.pinned (OpenSpec.ofChange fnDefaultsAcceptedExactlyPastMaturityWrong)

end Rows
end Go.Proofs.Qxb6003321aFmt
