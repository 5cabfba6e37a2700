/-
  The plain law of 'FnMostReplacedIsJoinThreshold': no Go in sight.
-/
import Derived.KernelRfl
namespace Go.Proofs.Qxb6003321aFmt.Plain

/-- What 'mostReplaced' answers at n nodes and attach cap a. -/
def most (n a : Int) : Int := if n - 1 ≤ a then n - 1 else (a * n) / (a + 1)

theorem mul_bd {n a c : Int} (ha : 1 ≤ a) (hn : n ≤ 2147483647) (hac : a < c) (hc : c < n) :
    0 ≤ a * (n - c) ∧ a * (n - c) ≤ 4611686014132420609 := by
  have h1 : a * (n - c) ≤ 2147483647 * (n - c) := Int.mul_le_mul_of_nonneg_right (by omega) (by omega)
  have h2 : 0 ≤ a * (n - c) := Int.mul_nonneg (by omega) (by omega)
  omega

theorem mul_bd2 {n a : Int} (ha : 1 ≤ a) (hn0 : 1 ≤ n) (hn : n ≤ 2147483647) (han : a < n - 1) :
    0 ≤ a * n ∧ a * n ≤ 4611686014132420609 := by
  have h1 : a * n ≤ 2147483647 * n := Int.mul_le_mul_of_nonneg_right (by omega) (by omega)
  have h2 : 0 ≤ a * n := Int.mul_nonneg (by omega) (by omega)
  omega

theorem most_nonneg {n a : Int} (ha : 1 ≤ a) (hn0 : 1 ≤ n) : 0 ≤ most n a := by
  unfold most
  split
  · omega
  · exact Int.ediv_nonneg (Int.mul_nonneg (by omega) (by omega)) (by omega)

theorem most_lt {n a : Int} (ha : 1 ≤ a) : most n a < n := by
  unfold most
  split
  · omega
  · refine Int.ediv_lt_of_lt_mul (by omega) ?_
    rw [Int.mul_add, Int.mul_comm a n]
    omega

/-- c new nodes can join through n - c others exactly when c is at most 'most'. -/
theorem le_most {n a c : Int} (ha : 1 ≤ a) (hc : c < n) :
    c ≤ most n a ↔ ¬ (a < c ∧ a * (n - c) < c) := by
  unfold most
  split
  · constructor
    · intro _ h; omega
    · intro _; omega
  · rw [Int.le_ediv_iff_mul_le (by omega)]
    have e1 : c * (a + 1) = a * c + c := by rw [Int.mul_add, Int.mul_comm c a]; omega
    have e2 : a * (n - c) = a * n - a * c := Int.mul_sub _ _ _
    rw [e1, e2]
    constructor
    · intro h h2; omega
    · intro h
      by_cases hac : a < c
      · omega
      · have h3 : a * 1 ≤ a * (n - c) := Int.mul_le_mul_of_nonneg_left (by omega) (by omega)
        rw [e2] at h3
        omega

end Go.Proofs.Qxb6003321aFmt.Plain
