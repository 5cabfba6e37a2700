/-
  ONE CLOSED FACT of the told card, in a text of its own (it wants much memory): the program may be entered.
-/
import Derived.Test.Qxb6003321aFmtCards
import Derived.ProofKit
import Derived.Stop.JoinedAt
import Derived.SevenToldRow
namespace Go.Proofs.Qxb6003321aFmt
open Go.ChangeShapes Go.WideShapes Go.ChangeAt Go.RowKit Go.Kit
open Go.Extern.Stop Go.Stop Go.Extern

namespace Closed
theorem mayEnter : Tryf.pinned.checked.prog.mayEnter = true := by kernel_rfl
end Closed
end Go.Proofs.Qxb6003321aFmt
