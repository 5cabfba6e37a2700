/-
  THE CLOSED FACTS of the told card, one theorem each.
-/
import Derived.Test.Qxb6003321aFmtCards
import Derived.ProofKit
import Derived.Stop.JoinedAt
import Derived.SevenToldRow
import Derived.Test.Qxb6003321aFmtMostMain
import Derived.Test.Qxb6003321aFmtMostEnter
import Derived.Test.Qxb6003321aFmtMostLifts
import Derived.Test.Qxb6003321aFmtMostMake
namespace Go.Proofs.Qxb6003321aFmt
open Go.ChangeShapes Go.WideShapes Go.ChangeAt Go.RowKit Go.Kit
open Go.Extern.Stop Go.Stop Go.Extern

namespace Closed
theorem k1 : Rows.fnMostReplacedIsJoinThresholdRow.wf (OpenSpec.ofChange Rows.fnMostReplacedIsJoinThresholdSpec) = true := by kernel_rfl
theorem k2 : mapsRowed Tryf.pinned.checked.prog = true := by kernel_rfl
theorem k3 : namedTie Tryf.pinned.checked.prog Rows.fnMostReplacedIsJoinThresholdRow.namedList (OpenSpec.ofChange Rows.fnMostReplacedIsJoinThresholdSpec).vars = true := by kernel_rfl
theorem k4 : Tryf.pinned.checked.prog.funcNamed Rows.fnMostReplacedIsJoinThresholdRow.func = some 3 := by kernel_rfl
theorem k5 : (Tryf.f3.params.toList.all fun t => Tryf.pinned.checked.prog.readableRec t) = true := by kernel_rfl
theorem k6 : Tryf.f3.isInstance Tryf.pinned.checked.prog Rows.fnMostReplacedIsJoinThresholdRow.origin Rows.fnMostReplacedIsJoinThresholdRow.targs := of_decide_eq_true (by kernel_rfl)
theorem k7 : Tryf.f3.isWrapper Tryf.pinned.checked.prog Rows.fnMostReplacedIsJoinThresholdRow.wrapper Rows.fnMostReplacedIsJoinThresholdRow.mainSum := by unfold Func.isWrapper; first | (rw [if_pos (by decide +kernel)]; kernel_rfl) | (rw [if_neg (by decide +kernel)]; exact ⟨rfl, rfl⟩)
theorem k8 : Tryf.pinned.checked.prog.envWorded = true := by kernel_rfl
theorem k9 : Rows.fnMostReplacedIsJoinThresholdRow.inPlace = Tryf.pinned.checked.prog.inPlace 3 := by kernel_rfl
theorem k10 : Rows.fnMostReplacedIsJoinThresholdRow.unfollowed = Tryf.pinned.checked.prog.unfollowed 3 := by kernel_rfl
theorem k11 : Rows.fnMostReplacedIsJoinThresholdRow.recurses = Tryf.pinned.checked.prog.recurses 3 := by kernel_rfl
theorem k12 : Rows.fnMostReplacedIsJoinThresholdRow.named = Tryf.pinned.checked.prog.varsNamed 3 := by kernel_rfl
theorem k13 : Rows.fnMostReplacedIsJoinThresholdRow.maps = (Tryf.f3.params.toList ++ (OpenSpec.ofChange Rows.fnMostReplacedIsJoinThresholdSpec).bare.plain.varTypes Tryf.pinned.checked.prog).any (Tryf.pinned.checked.prog.mapsRec ·) := by kernel_rfl
theorem k14 : Rows.fnMostReplacedIsJoinThresholdRow.ifaces = (Tryf.f3.params.toList ++ (OpenSpec.ofChange Rows.fnMostReplacedIsJoinThresholdSpec).bare.plain.varTypes Tryf.pinned.checked.prog).any (Tryf.pinned.checked.prog.ifacesRec ·) := by kernel_rfl
theorem k15 : Rows.fnMostReplacedIsJoinThresholdRow.mapsOut = Tryf.pinned.checked.prog.mapsAmong Tryf.f3.resultTypes.toList := by kernel_rfl
theorem k16 : Rows.fnMostReplacedIsJoinThresholdRow.loops = (Tryf.f3.params.toList ++ (OpenSpec.ofChange Rows.fnMostReplacedIsJoinThresholdSpec).bare.plain.varTypes Tryf.pinned.checked.prog).any (Tryf.pinned.checked.prog.loopsFrom ·) := by kernel_rfl
theorem k17 : Rows.fnMostReplacedIsJoinThresholdRow.wideKeys = (Tryf.f3.params.toList ++ (OpenSpec.ofChange Rows.fnMostReplacedIsJoinThresholdSpec).bare.plain.varTypes Tryf.pinned.checked.prog ++ Tryf.f3.resultTypes.toList).any (Tryf.pinned.checked.prog.wideKeysFrom ·) := by kernel_rfl
theorem k18 : ((OpenSpec.ofChange Rows.fnMostReplacedIsJoinThresholdSpec).vars.all fun n => Tryf.pinned.checked.prog.varReadable n) = true := by kernel_rfl
theorem k20 : false = Tryf.pinned.checked.prog.looks [] := by kernel_rfl
theorem k21 : (Tryf.f3.params.toList.all fun t => !Tryf.pinned.checked.prog.wantsStandIn t) = true := by kernel_rfl
theorem k22 : false = Rows.fnMostReplacedIsJoinThresholdRow.goesBy Tryf.pinned.checked.prog := by kernel_rfl
theorem k24 : Rows.fnMostReplacedIsJoinThresholdRow.veiled = (Tryf.f3.params.toList ++ (OpenSpec.ofChange Rows.fnMostReplacedIsJoinThresholdSpec).bare.plain.varTypes Tryf.pinned.checked.prog ++ Tryf.f3.resultTypes.toList).any (Tryf.pinned.checked.prog.veiledRec ·) ∧ Rows.fnMostReplacedIsJoinThresholdRow.veiledFits Tryf.pinned.checked.prog Tryf.f3.params.toList (Tryf.f3.params.toList ++ (OpenSpec.ofChange Rows.fnMostReplacedIsJoinThresholdSpec).bare.plain.varTypes Tryf.pinned.checked.prog ++ Tryf.f3.resultTypes.toList) = true := ⟨by kernel_rfl, by kernel_rfl⟩
theorem k23 : Rows.fnMostReplacedIsJoinThresholdRow.moreEntering Tryf.pinned.checked.prog Tryf.f3 := OpenClaim.moreEntering_of mayEnter (by kernel_rfl) (by kernel_rfl) (by kernel_rfl) (by kernel_rfl) (by kernel_rfl) (by kernel_rfl) (by kernel_rfl) lifts make
end Closed
end Go.Proofs.Qxb6003321aFmt
