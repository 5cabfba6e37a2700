/-
  THE TIED CARD OF 'FnClassStringNamesEachClassOnce', PROVED: the row by the wide builder, the card by the builder of tied cards over the given tie.
-/
import Derived.Test.Qxb6003358aDoorClassLift
import Derived.Test.Qxb6003358aDoorTie
import Derived.Test.Qxb6003358aDoorCards
import Derived.SevenTiedAt
namespace Go.Proofs.Qxb6003358aDoor
open Go.ChangeShapes Go.WideShapes Go.ChangeAt Go.RowKit

theorem row_holds : Rows.FnClassStringNamesEachClassOnceSaid :=
  OpenClaim.holds_of_wide 4 Tryd.f4 rfl rfl rfl rfl rfl rfl rfl ⟨rfl, rfl, rfl, rfl, rfl⟩ rfl rfl rfl rfl rfl (by kernel_rfl) Tryd.func4 (by kernel_rfl)
    (of_decide_eq_true (by kernel_rfl)) (by unfold Func.isWrapper; first | (rw [if_pos (by decide +kernel)]; kernel_rfl) | (rw [if_neg (by decide +kernel)]; exact ⟨rfl, rfl⟩))
    (fun os started H enc _ => lifted os started H enc)

theorem mainIs : Tryd.pinned.checked.prog.mainIs = some (true, "7de1c068441c641ca6c88d3503b674787ef83421785bf70ce0944f6658ef7258".toList) := by kernel_rfl
theorem named4 : Tryd.pinned.checked.prog.funcNamed Rows.fnClassStringNamesEachClassOnceRow.func = some 4 := by kernel_rfl
theorem noLooks : false = Tryd.pinned.checked.prog.looks [] := by kernel_rfl
theorem noStandIn : ([25].all fun u => !Tryd.pinned.checked.prog.wantsStandIn u) = true := by kernel_rfl
theorem noGoes : false = Rows.fnClassStringNamesEachClassOnceRow.goesBy Tryd.pinned.checked.prog := by kernel_rfl
theorem wfText : Rows.fnClassStringNamesEachClassOnceRow.wfByText (OpenSpec.ofChange Rows.fnClassStringNamesEachClassOnceSpec) = true := by kernel_rfl

/-- THE STATEMENT. -/
theorem proved : Rows.FnClassStringNamesEachClassOnceCardSaid :=
  Claim7.holds_tied_plain_at .later [] [.data, .data, .data] true (true, "7de1c068441c641ca6c88d3503b674787ef83421785bf70ce0944f6658ef7258") false
    row_holds (fun _ h => by cases h) wfText (fun _ h => by cases h) fnClassStringNamesEachClassOnce_row_tie rfl ⟨rfl, rfl⟩ mainIs rfl
    (fun f fn hf hfn => by
      obtain rfl : f = 4 := Option.some.inj (hf.symm.trans named4)
      obtain rfl : fn = Tryd.f4 := (Option.some.inj (Tryd.func4.symm.trans hfn)).symm
      exact ⟨noLooks, fun j t ht => by
        rw [Tryd.params4] at ht
        have hm : t ∈ [25] := by
          have := Array.mem_of_getElem? ht
          simpa using this
        simpa using List.all_eq_true.1 noStandIn t hm⟩)
    noGoes

end Go.Proofs.Qxb6003358aDoor
