/-
  The law's walk, and the row's step as the guide's shell for this row lays it.
-/
import Derived.Test.Qxb6003469aRows
import Derived.Test.Qxb6003469aUnits
import Derived.WalkKit
import Derived.ProofKit
import Derived.OpenShut
import Derived.ShutString
namespace Go.Proofs.Qxb6003469a.fnUnitSecondsOrdered
open Go.ChangeShapes Go.WideShapes Go.ChangeAt Go.RowKit
open Go.ChangeMaps (open_string shut_string)
set_option linter.unusedVariables false      -- a walk need not use every 'w<i>' (that an integer argument fits its kind)

theorem own : ownKnob Try.prog.godebug = none := by kernel_rfl

/-- The five pairs of rank and seconds. -/
theorem pair_of {c r u : Int} (h : Unit5 c r u) : r = 1 ∧ u = 1 ∨ r = 2 ∧ u = 60 ∨ r = 3 ∧ u = 3600 ∨ r = 4 ∧ u = 86400 ∨ r = 5 ∧ u = 604800 := by
  rcases h with ⟨_, h⟩ | ⟨_, h⟩ | ⟨_, h⟩ | ⟨_, h⟩ | ⟨_, h⟩
  · exact Or.inl h
  · exact Or.inr (Or.inl h)
  · exact Or.inr (Or.inr (Or.inl h))
  · exact Or.inr (Or.inr (Or.inr (Or.inl h)))
  · exact Or.inr (Or.inr (Or.inr (Or.inr h)))

/-- Where c names no unit. -/
theorem walk_left (c d : Int) (w : World) (H1 : Hid (∀ W, Calls Try.prog 14 #[.int .u8 c] W fun e w' => e = .returned (.int .i64 0) ∧ w' = W)) (H2 : Hid (∃ q : Int, ∀ W, Calls Try.prog 14 #[.int .u8 d] W fun e w' => e = .returned (.int .i64 q) ∧ w' = W)) :
    Calls Try.prog 5 #[.int .u8 c, .int .u8 d] w fun e w' => e = .returned (.bool true) ∧ w' = w := by
  obtain ⟨q, hq⟩ := H2.out
  have H3 : Hid (∀ W, Calls Try.prog 14 #[.int .u8 d] W fun e w' => e = .returned (.int .i64 q) ∧ w' = W) := hq
  clear hq H2
  go_enter Try.func5, Try.ntmps5
  go_wp2_with fail
  refine (H1.out _).mono ?_
  rintro e w1 ⟨rfl, rfl⟩
  go_wp2_with fail
  refine (H3.out _).mono ?_
  rintro e w2 ⟨rfl, rfl⟩
  go_wp2
  go_ret
  exact ⟨rfl, rfl⟩

/-- Where c names a unit and d none. -/
theorem walk_right (c d r : Int) (w : World) (hr : (r == 0) = false) (H1 : Hid (∀ W, Calls Try.prog 14 #[.int .u8 c] W fun e w' => e = .returned (.int .i64 r) ∧ w' = W)) (H2 : Hid (∀ W, Calls Try.prog 14 #[.int .u8 d] W fun e w' => e = .returned (.int .i64 0) ∧ w' = W)) :
    Calls Try.prog 5 #[.int .u8 c, .int .u8 d] w fun e w' => e = .returned (.bool true) ∧ w' = w := by
  go_enter Try.func5, Try.ntmps5
  go_wp2_with fail
  refine (H1.out _).mono ?_
  rintro e w1 ⟨rfl, rfl⟩
  go_wp2_with fail
  refine (H2.out _).mono ?_
  rintro e w2 ⟨rfl, rfl⟩
  go_wp2
  go_ret
  exact ⟨rfl, rfl⟩

/-- Where both name units: the 25 pairs. -/
theorem walk_both (c d r u s v : Int) (w : World) (h1 : Unit5 c r u) (h2 : Unit5 d s v) :
    Calls Try.prog 5 #[.int .u8 c, .int .u8 d] w fun e w' => e = .returned (.bool true) ∧ w' = w := by
  have H1 : Hid (∀ W, Calls Try.prog 14 #[.int .u8 c] W fun e w' => e = .returned (.int .i64 r) ∧ w' = W) := rank_unit c r u h1
  have H2 : Hid (∀ W, Calls Try.prog 14 #[.int .u8 d] W fun e w' => e = .returned (.int .i64 s) ∧ w' = W) := rank_unit d s v h2
  have H3 : Hid (∀ W, Calls Try.prog 11 #[.int .u8 c] W fun e w' => e = .returned (.int .u64 u) ∧ w' = W) := secs_unit c r u h1
  have H4 : Hid (∀ W, Calls Try.prog 11 #[.int .u8 d] W fun e w' => e = .returned (.int .u64 v) ∧ w' = W) := secs_unit d s v h2
  have p1 := pair_of h1
  have p2 := pair_of h2
  clear h1 h2
  rcases p1 with ⟨rfl, rfl⟩ | ⟨rfl, rfl⟩ | ⟨rfl, rfl⟩ | ⟨rfl, rfl⟩ | ⟨rfl, rfl⟩
  all_goals
    rcases p2 with ⟨rfl, rfl⟩ | ⟨rfl, rfl⟩ | ⟨rfl, rfl⟩ | ⟨rfl, rfl⟩ | ⟨rfl, rfl⟩
  all_goals
    go_enter Try.func5, Try.ntmps5
    go_wp2_with fail
    refine (H1.out _).mono ?_
    rintro e w1 ⟨rfl, rfl⟩
    go_wp2_with fail
    refine (H2.out _).mono ?_
    rintro e w2 ⟨rfl, rfl⟩
    go_wp2_with fail
    refine (H3.out _).mono ?_
    rintro e w3 ⟨rfl, rfl⟩
    go_wp2_with fail
    refine (H4.out _).mono ?_
    rintro e w4 ⟨rfl, rfl⟩
    go_wp2
    go_ret
    exact ⟨rfl, rfl⟩

theorem rank_pos {c r u : Int} (h : Unit5 c r u) : (r == 0) = false := by
  have := pair_of h
  rw [beq_eq_false_iff_ne]
  omega

theorem byte_bd {a : Int} (h : (Lit.int .u8 a).wf = true) : 0 ≤ a ∧ a ≤ 255 := by
  have := h
  simp [Lit.wf, IntKind.min, IntKind.max, IntKind.signed, IntKind.bits] at this
  omega

/-! ### STEP 1: THE WALK: the Go text returns true. -/
theorem walk (a0 : Int) (a1 : Int) (w0 : (Lit.int .u8 a0).wf = true) (w1 : (Lit.int .u8 a1).wf = true) (w : World) :
    Calls Try.prog 5 #[.int .u8 a0, .int .u8 a1] w fun e w' => e = .returned (.bool true) ∧ Grown w w' := by
  have b0 := byte_bd w0
  have b1 := byte_bd w1
  suffices H : Calls Try.prog 5 #[.int .u8 a0, .int .u8 a1] w fun e w' => e = .returned (.bool true) ∧ w' = w by
    refine H.mono ?_
    rintro e w' ⟨rfl, rfl⟩
    exact ⟨rfl, Grown.refl _⟩
  rcases unit_or a0 with ⟨r, u, h0⟩ | h0
  · rcases unit_or a1 with ⟨s, v, h1⟩ | h1
    · exact walk_both a0 a1 r u s v w h0 h1
    · exact walk_right a0 a1 r w (rank_pos h0) (rank_unit a0 r u h0) (rank_none a1 b1.1 b1.2 h1)
  · refine walk_left a0 a1 w (rank_none a0 b0.1 b0.2 h0) ?_
    rcases unit_or a1 with ⟨s, v, h1⟩ | h1
    · exact ⟨s, rank_unit a1 s v h1⟩
    · exact ⟨0, rank_none a1 b1.1 b1.2 h1⟩

/-! ### THE ROW's STEP: WRITTEN OUT: LEAVE IT -/
set_option maxRecDepth 100000 in
theorem lifted (os : Os) (started : os.Started) (H : Type) (enc : TypeId × Value → H) :
    ReturnsInHanded {} Try.checked os 5 .any (Rows.fnUnitSecondsOrderedSpec.pre6 enc Try.prog Try.f5 Rows.fnUnitSecondsOrderedRow.domain false) (Rows.fnUnitSecondsOrderedSpec.post enc Try.prog Try.f5 false true false false) := by
  refine returnsInHanded_of_change (C := Try.checked) own started (by kernel_rfl) Try.func5
    (ChangeSpec.witness6 (enc := enc) (C := Try.checked) false ⟨#[], #[.int .u8 0, .int .u8 0], []⟩ 8 (by kernel_rfl) (by kernel_rfl) (by kernel_rfl) (by kernel_rfl)) ?_
  intro W base args ds gs before hval0 hW hcnd _
  have hval : ∀ (j : Nat) t v, Try.f5.params[j]? = some t → args[j]? = some v → Value.okWide Try.prog W .any base t v := hval0
  have hW' := hW
  obtain ⟨p, q, hA0, hV, rfl, hfz, hnd⟩ := hW
  have hA : DataW.TrodAll enc Try.prog W 0 (fun _ => true) true Try.f5.params.toList args.toList ds p := hA0
  rw [Try.params5] at hA hval
  obtain ⟨v0, vs0, d0, ds0, p0, q0, hargs, rfl, rfl, h0, r0⟩ := trodAll_cons hA
  obtain ⟨v1, vs1, d1, ds1, p1, q1, rfl, rfl, rfl, h1, r1⟩ := trodAll_cons r0
  obtain ⟨rfl, rfl, rfl⟩ := trodAll_nil r1
  obtain rfl : args = #[v0, v1] := by cases args; simp_all
  obtain ⟨rfl, rfl⟩ := trodVars_none hV
  obtain ⟨a0, rfl, rfl, rfl, w0⟩ := open_int Try.underlying5 (hval 0 5 v0 rfl rfl) h0
  obtain ⟨a1, rfl, rfl, rfl, w1⟩ := open_int Try.underlying5 (hval 1 5 v1 rfl rfl) h1
  clear hA0 hval0
  simp only [List.append_nil] at hW'
  refine (walk a0 a1 w0 w1 W).mono fun e W' ⟨he, hg⟩ => ?_
  subst he
  exact ⟨_, rfl, post_of_same (pa := []) (pv := []) hW' (fun _ _ _ => (trodAll_cons_mk (shut_bool Try.underlying4 _) trodAll_mk0)) (fun sp _ => (trodAll_cons_mk (shut_int Try.underlying5 w0) (trodAll_cons_mk (shut_int Try.underlying5 w1) trodAll_mk0))) (fun _ _ => rfl) rfl
    (hg.frame _) hg.2.1 (ok_one (by kernel_rfl) rfl (okWide_bool_mk Try.underlying4 _))⟩

end Go.Proofs.Qxb6003469a.fnUnitSecondsOrdered
