/-
  ONE CLOSED FACT of the told card, in a text of its own (it wants much memory): the sum in the dump's head.
-/
import Derived.Test.Qxb6003321aFmtCards
import Derived.ProofKit
import Derived.Stop.JoinedAt
import Derived.SevenToldRow
namespace Go.Proofs.Qxb6003321aFmt
open Go.ChangeShapes Go.WideShapes Go.ChangeAt Go.RowKit Go.Kit
open Go.Extern.Stop Go.Stop Go.Extern

namespace Closed
theorem k19 : Tryf.pinned.checked.prog.mainIs = some (true, "acdf1e4a27406cf1e02b564a2788d2d5c5a9efdbd21824a6bd71730656c13e98".toList) := by kernel_rfl
end Closed
end Go.Proofs.Qxb6003321aFmt
