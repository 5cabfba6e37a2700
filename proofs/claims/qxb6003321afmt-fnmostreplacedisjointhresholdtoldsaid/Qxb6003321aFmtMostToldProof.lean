/-
  THE TOLD CARD OF 'FnMostReplacedIsJoinThreshold', PROVED: by the builder over told stops, out of the lifted walk (Qxb6003321aFmtMostLift.lean) and the closed facts (Qxb6003321aFmtMostClosed.lean).
-/
import Derived.Test.Qxb6003321aFmtMostLift
import Derived.Test.Qxb6003321aFmtMostClosed
namespace Go.Proofs.Qxb6003321aFmt
open Go.ChangeShapes Go.WideShapes Go.ChangeAt Go.RowKit Go.Kit
open Go.Extern.Stop Go.Stop Go.Extern

theorem core : Claim7.holds Tryf.pinned (.plain (OpenSpec.ofChange Rows.fnMostReplacedIsJoinThresholdSpec)) (Claim7.toldRow Rows.fnMostReplacedIsJoinThresholdRow (true, "acdf1e4a27406cf1e02b564a2788d2d5c5a9efdbd21824a6bd71730656c13e98") false false) :=
  Claim7.holds_of_told_any (p := Tryf.pinned) (s := OpenSpec.ofChange Rows.fnMostReplacedIsJoinThresholdSpec) (c := Rows.fnMostReplacedIsJoinThresholdRow) 3 Tryf.f3 "fmt.errorf" [] [] (true, "acdf1e4a27406cf1e02b564a2788d2d5c5a9efdbd21824a6bd71730656c13e98") false false
    Closed.k1 rfl rfl rfl laidOut Closed.k2 rfl ⟨rfl, rfl, rfl, rfl, rfl, rfl, rfl⟩ rfl rfl Closed.k3 Closed.k4 Tryf.func3 Closed.k5
    Closed.k6 Closed.k7 stops.symm rfl stopKnobs.symm Closed.k8
    Closed.k9 Closed.k10 Closed.k11 Closed.k12 Closed.k13 Closed.k14 Closed.k15 Closed.k16 Closed.k17 rfl Closed.k18 rfl rfl
    rfl rfl
    rfl Closed.k19 Closed.k20 Closed.k21 (by decide) Closed.k22
    Closed.k23
    ⟨_, WideRow.started_initial, quiet _⟩
    (fun os started _ H enc _ => lifted os started H enc) Closed.k24

/-- THE STATEMENT. -/
theorem proved : Rows.FnMostReplacedIsJoinThresholdToldSaid := core

end Go.Proofs.Qxb6003321aFmt
