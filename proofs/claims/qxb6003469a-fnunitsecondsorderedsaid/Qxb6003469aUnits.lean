/-
  The walks on the road of 'FnUnitSecondsOrdered'.
-/
import Derived.Test.Qxb6003469aRows
import Derived.WalkKit
import Derived.Below
namespace Go.Proofs.Qxb6003469a
open Go.RowKit

/-- c is a letter of the unit of rank r, which has u seconds. -/
def Unit5 (c r u : Int) : Prop :=
  (c = 115 ∨ c = 83) ∧ r = 1 ∧ u = 1 ∨ (c = 109 ∨ c = 77) ∧ r = 2 ∧ u = 60 ∨ (c = 104 ∨ c = 72) ∧ r = 3 ∧ u = 3600 ∨ (c = 100 ∨ c = 68) ∧ r = 4 ∧ u = 86400 ∨ (c = 119 ∨ c = 87) ∧ r = 5 ∧ u = 604800

theorem unit_or (c : Int) : (∃ r u, Unit5 c r u) ∨ (c ≠ 115 ∧ c ≠ 83 ∧ c ≠ 109 ∧ c ≠ 77 ∧ c ≠ 104 ∧ c ≠ 72 ∧ c ≠ 100 ∧ c ≠ 68 ∧ c ≠ 119 ∧ c ≠ 87) := by
  by_cases h1 : c = 115 ∨ c = 83
  · exact Or.inl ⟨1, 1, Or.inl ⟨h1, rfl, rfl⟩⟩
  by_cases h2 : c = 109 ∨ c = 77
  · exact Or.inl ⟨2, 60, Or.inr (Or.inl ⟨h2, rfl, rfl⟩)⟩
  by_cases h3 : c = 104 ∨ c = 72
  · exact Or.inl ⟨3, 3600, Or.inr (Or.inr (Or.inl ⟨h3, rfl, rfl⟩))⟩
  by_cases h4 : c = 100 ∨ c = 68
  · exact Or.inl ⟨4, 86400, Or.inr (Or.inr (Or.inr (Or.inl ⟨h4, rfl, rfl⟩)))⟩
  by_cases h5 : c = 119 ∨ c = 87
  · exact Or.inl ⟨5, 604800, Or.inr (Or.inr (Or.inr (Or.inr ⟨h5, rfl, rfl⟩)))⟩
  right
  omega

/-- 'unitRank' at a unit's letter. -/
theorem rank_unit (c r u : Int) (h : Unit5 c r u) (w : World) : Calls Try.prog 14 #[.int .u8 c] w fun e w' => e = .returned (.int .i64 r) ∧ w' = w := by
  rcases h with ⟨rfl | rfl, rfl, rfl⟩ | ⟨rfl | rfl, rfl, rfl⟩ | ⟨rfl | rfl, rfl, rfl⟩ | ⟨rfl | rfl, rfl, rfl⟩ | ⟨rfl | rfl, rfl, rfl⟩
  all_goals
    go_enter Try.func14, Try.ntmps14
    go_wp2
    go_ret
    exact ⟨rfl, rfl⟩

/-- 'unitRank' at any other byte. -/
theorem rank_none (c : Int) (c0 : 0 ≤ c) (c1 : c ≤ 255) (h : c ≠ 115 ∧ c ≠ 83 ∧ c ≠ 109 ∧ c ≠ 77 ∧ c ≠ 104 ∧ c ≠ 72 ∧ c ≠ 100 ∧ c ≠ 68 ∧ c ≠ 119 ∧ c ≠ 87) (w : World) : Calls Try.prog 14 #[.int .u8 c] w fun e w' => e = .returned (.int .i64 0) ∧ w' = w := by
  obtain ⟨h1, h2, h3, h4, h5, h6, h7, h8, h9, h10⟩ := h
  by_cases hu : 65 ≤ c ∧ c ≤ 90
  · obtain ⟨u1, u2⟩ := hu
    have d1 : decide (65 ≤ c) = true := by simp; omega
    have d2 : decide (c ≤ 90) = true := by simp; omega
    have e1 : (c + 32 == 115) = false := by rw [beq_eq_false_iff_ne]; omega
    have e2 : (c + 32 == 109) = false := by rw [beq_eq_false_iff_ne]; omega
    have e3 : (c + 32 == 104) = false := by rw [beq_eq_false_iff_ne]; omega
    have e4 : (c + 32 == 100) = false := by rw [beq_eq_false_iff_ne]; omega
    have e5 : (c + 32 == 119) = false := by rw [beq_eq_false_iff_ne]; omega
    go_enter Try.func14, Try.ntmps14
    go_wp2
    go_ret
    exact ⟨rfl, rfl⟩
  · have e1 : (c == 115) = false := by rw [beq_eq_false_iff_ne]; omega
    have e2 : (c == 109) = false := by rw [beq_eq_false_iff_ne]; omega
    have e3 : (c == 104) = false := by rw [beq_eq_false_iff_ne]; omega
    have e4 : (c == 100) = false := by rw [beq_eq_false_iff_ne]; omega
    have e5 : (c == 119) = false := by rw [beq_eq_false_iff_ne]; omega
    by_cases u1 : 65 ≤ c
    · have d1 : decide (65 ≤ c) = true := by simp; omega
      have d2 : decide (c ≤ 90) = false := by simp; omega
      go_enter Try.func14, Try.ntmps14
      go_wp2
      go_ret
      exact ⟨rfl, rfl⟩
    · have d1 : decide (65 ≤ c) = false := by simp; omega
      go_enter Try.func14, Try.ntmps14
      go_wp2
      go_ret
      exact ⟨rfl, rfl⟩

/-- 'ZZUnitSeconds' at a unit's letter. -/
theorem secs_unit (c r u : Int) (h : Unit5 c r u) (w : World) : Calls Try.prog 11 #[.int .u8 c] w fun e w' => e = .returned (.int .u64 u) ∧ w' = w := by
  rcases h with ⟨rfl | rfl, rfl, rfl⟩ | ⟨rfl | rfl, rfl, rfl⟩ | ⟨rfl | rfl, rfl, rfl⟩ | ⟨rfl | rfl, rfl, rfl⟩ | ⟨rfl | rfl, rfl, rfl⟩
  all_goals
    go_enter Try.func11, Try.ntmps11
    go_wp2
    go_ret
    exact ⟨rfl, rfl⟩

end Go.Proofs.Qxb6003469a
