/-
  THE WALK of Qxb6003358aDoorRoad.lean LIFTED into the row: the listed table gives the walk its one fact; the witness starts in the heap that the door's own run leaves.
-/
import Derived.Test.Qxb6003358aDoorRoad
import Derived.ProofKit
import Derived.LaidMore
import Derived.OpenShut
import Derived.Stop.Joined
import Derived.Stop.LaidErr
import Derived.Lib.LaidTab
namespace Go.Proofs.Qxb6003358aDoor
open Go.ChangeShapes Go.WideShapes Go.ChangeAt Go.WideMaps Go.WideElems Go.RowKit

theorem own : ownKnob Tryd.prog.godebug = none := by kernel_rfl
theorem gPow : Tryd.prog.globalNamed (Rows.fnClassStringNamesEachClassOnceRow.named.headD "") = some 0 := by kernel_rfl
theorem tPow : (Tryd.prog.globals[0]?).map (·.type) = some 47 := by kernel_rfl
theorem cells39 : Tryd.prog.cellsOf 39 = 1 := by kernel_rfl
theorem cells47 : Tryd.prog.cellsOf 47 = 20 := by kernel_rfl
theorem laidPow : (Rows.laid_internal_strconv_uint64pow10 : DataW Unit) = Lib.tabData .u64 Lib.pow10Tab := by kernel_rfl

/-- The door's own heap meets the condition: closed facts. -/
theorem door_met (os : Os) (args : Array Value) : laidMetH Tryd.prog Rows.fnClassStringNamesEachClassOnceRow.laid ((World.doorLaid Tryd.prog 24 os).forCall (fun _ _ => 0) ⟨#[], args, []⟩).memory :=
  laidMetH_of_parts3 (fuel := 8) (laidMet_of_run' 8 (by kernel_rfl) (by kernel_rfl)) (by kernel_rfl) (by kernel_rfl)

/-- What the condition gives the walk. -/
theorem of_laid {W : World} (h : laidMetH Tryd.prog Rows.fnClassStringNamesEachClassOnceRow.laid W) : Tab W := by
  rw [MakeChecks.laidMetH_plain _ _ _ (by kernel_rfl)] at h
  have h3 := laidMet.tail (laidMet.tail h)
  rw [laidPow] at h3
  exact Lib.tabIs_of_head gPow tPow Tryd.underlying47 Tryd.underlying39 cells39 cells47 h3

/-- The table stands as long as the old blocks do. -/
theorem tab_below {W W' : World} (h : Tab W) (hb : Below W.heap.size W W') : Tab W' := by
  have hv : W.var? Tryd.prog (Rows.fnClassStringNamesEachClassOnceRow.named.headD "") = some (Lib.pow10Tab.map fun z => Value.int .u64 z).toArray := h
  have hg : 0 < W.heap.size := by
    rcases Nat.eq_zero_or_pos W.heap.size with e | e
    · exfalso
      unfold World.var? at hv
      rw [gPow] at hv
      simp only [Option.bind_some] at hv
      rw [Array.getElem?_eq_none (by omega)] at hv
      simp at hv
    · exact e
  exact var?_below hb gPow hg hv

set_option maxRecDepth 100000 in
theorem lifted (os : Os) (started : os.Started) (H : Type) (enc : TypeId × Value → H) :
    ReturnsInHanded {} Tryd.checked os 4 .any (fun w args => (Rows.fnClassStringNamesEachClassOnceSpec.pre enc Tryd.prog Tryd.f4 [] false w args ∧ laidMetH Tryd.prog Rows.fnClassStringNamesEachClassOnceRow.laid w) ∧ sizedMet enc Tryd.prog Tryd.f4 (OpenSpec.ofChange Rows.fnClassStringNamesEachClassOnceSpec) false w args)
      (Rows.fnClassStringNamesEachClassOnceSpec.post enc Tryd.prog Tryd.f4 false true false false) := by
  refine returnsInHanded_of_change_and (C := Tryd.checked) (X := fun w _ => laidMetH Tryd.prog Rows.fnClassStringNamesEachClassOnceRow.laid w) (fun _ _ _ hh h => h.of_heap hh) own started (by kernel_rfl) Tryd.func4
    (ChangeSpec.witness_shaped (enc := enc) (C := Tryd.checked) (os := os) (X := fun w _ => laidMetH Tryd.prog Rows.fnClassStringNamesEachClassOnceRow.laid w) false (World.doorLaid Tryd.prog 24 os) #[.int .u16 0, .int .u16 0] 8 rfl (World.shaped_of_RefB (by kernel_rfl) (by kernel_rfl)) (by kernel_rfl) (by kernel_rfl) (by kernel_rfl) (door_met os _)) ?_
  intro W base args ds gs before hval0 hW _ _ hL _
  have hval : ∀ (j : Nat) t v, Tryd.f4.params[j]? = some t → args[j]? = some v → Value.okWide Tryd.prog W .any base t v := hval0
  have hW' := hW
  obtain ⟨p, q, hA0, hV, rfl, hfz, hnd⟩ := hW
  have hA : DataW.TrodAll enc Tryd.prog W 0 (fun _ => true) true Tryd.f4.params.toList args.toList ds p := hA0
  rw [Tryd.params4] at hA hval
  obtain ⟨v0, v1, d0, d1, p0, p1, rfl, rfl, rfl, h0, h1⟩ := trodAll_two hA
  obtain ⟨rfl, rfl⟩ := trodVars_none hV
  obtain ⟨a, rfl, rfl, rfl, w0⟩ := open_int Tryd.underlying25 (hval 0 25 v0 rfl rfl) h0
  obtain ⟨b, rfl, rfl, rfl, w1⟩ := open_int Tryd.underlying25 (hval 1 25 v1 rfl rfl) h1
  clear hA0 hval0
  have hT := of_laid hL
  have ba : 0 ≤ a ∧ a ≤ 65535 := by
    have := w0
    simp [Lit.wf, IntKind.min, IntKind.max, IntKind.signed, IntKind.bits] at this
    omega
  have bb : 0 ≤ b ∧ b ≤ 65535 := by
    have := w1
    simp [Lit.wf, IntKind.min, IntKind.max, IntKind.signed, IntKind.bits] at this
    omega
  simp only [List.append_nil] at hW'
  refine (walk a b ba.1 ba.2 bb.1 bb.2 W hT (fun w' hb => tab_below hT hb)).mono fun e W' ⟨he, hg⟩ => ?_
  subst he
  refine ⟨_, rfl, _, _, _, [], [], [], hW', ?_, ?_, rfl, hg.frame _, fun h => by cases h⟩
  · exact trodAll_mk1 (shut_bool Tryd.underlying4 _)
  · exact trodAll_mk2 (shut_int Tryd.underlying25 w0) (shut_int Tryd.underlying25 w1)

end Go.Proofs.Qxb6003358aDoor
