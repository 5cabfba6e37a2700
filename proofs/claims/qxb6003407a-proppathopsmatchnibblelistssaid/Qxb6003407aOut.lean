/-
  'c2ReprOK', 'c2OutsidePathOps', 'zzBytes_PropPathOpsMatchNibbleLists'.
-/
import Derived.Test.Qxb6003407aNibs
import Derived.Test.Qxb6003407aEq
namespace Go.Proofs.Qxb6003407a
open Go.RowKit

/-- The bytes L hold the tokens A. -/
def HoldsTok (A L : List Int) : Prop := (A.length + 1) / 2 ≤ L.length ∧ tab (nib L) A.length = A

/-- It answers a bool; where it says b, C holds. -/
def Says (b : Bool) (C : Prop) (w : World) (e : Ending) (w' : World) : Prop := ∃ r : Bool, e = .returned (.bool r) ∧ (r = b → C) ∧ Below w.heap.size w w'

/-- 'c2ReprOK': where it says yes, the bytes hold the tokens. -/
theorem repr_any (v1 v2 : Value) (A L : List Int) (w : World) (h1 : IsB w v1 A) (h2 : IsB w v2 L) (hA : A.length ≤ 65536) :
    Calls Try.prog 34 #[v1, v2] w fun e w' => Says true (HoldsTok A L) w e w' := by
  have HI1 : Hid (∀ W, Below w.heap.size w W → IsB W v1 A) := fun W hW => h1.below hW
  have HI2 : Hid (∀ W, Below w.heap.size w W → IsB W v2 L) := fun W hW => h2.below hW
  obtain ⟨a1, c1, hv1, hc1, hm1, hb1, hr1⟩ := h1
  obtain ⟨a2, m2, c2, hv2⟩ := h2.slice
  rw [hv1] at HI1 ⊢
  rw [hv2] at HI2 ⊢
  unfold maxLen at hm1
  have HR1 : Hid (0 < A.length → ∃ b off, a1 = some ⟨b, off, none⟩ ∧ ∀ i, i < A.length → w.cell? ⟨b, off + i, none⟩ = some (.int .u8 (A[i]?.getD 0))) := hr1
  have HB1 : Hid (Byt A) := hb1
  clear hr1 hb1 h2 hv1 hv2
  go_enter Try.func34, Try.ntmps34
  go_wp2
  go_loop [5] (fun i => ∃ k : Nat, k ≤ A.length ∧ i = .int .i64 k) (fun i => A.length - (intOf i).toNat)
  case atStart => exact ⟨0, Nat.zero_le _, rfl⟩
  case round =>
    obtain ⟨k, hk, rfl⟩ := hrel
    by_cases hlt : k < A.length
    · obtain ⟨b, o, rfl, hx⟩ := HR1.out (by omega)
      have hz := HB1.out.at k
      obtain ⟨z, hzz⟩ : ∃ z, z = A[k]?.getD 0 := ⟨_, rfl⟩
      have g1 := hx k hlt
      rw [← hzz] at g1 hz
      obtain ⟨hz0, hz1⟩ := hz
      have i1 : (k : Int) < (A.length : Int) := by omega
      clear hx hzz
      by_cases h15 : 15 < z
      · go_wp2
        go_ret
        exact ⟨false, rfl, fun h => (by cases h), Below.refl _ _⟩
      · go_wp2
        go_round
        case rel => exact ⟨k + 1, by omega, by go_num⟩
        case measure => simp [intOf]; omega
    · by_cases hl : (A.length + 1) / 2 ≤ L.length
      · go_wp2_with fail
        refine (read_ok _ L A.length _ (HI2.out _ (Below.refl _ _)) (by omega) hl).mono ?_
        rintro e w1 ⟨v', rfl, hI, hb⟩
        have HI' : Hid (IsB w1 v' (tab (nib L) A.length)) := hI
        obtain ⟨a', m', c', hv'⟩ := hI.slice
        clear hI
        rw [hv'] at HI' ⊢
        clear hv'
        go_wp2_with fail
        refine (eq_any _ _ (tab (nib L) A.length) A _ HI'.out (HI1.out _ hb)).mono ?_
        rintro e w2 ⟨rfl, hb2⟩
        obtain ⟨r, hr⟩ : ∃ r, r = decide (tab (nib L) A.length = A) := ⟨_, rfl⟩
        have HRR : Hid (r = decide (tab (nib L) A.length = A)) := hr
        rw [← hr]
        clear hr
        go_wp2
        go_ret
        refine ⟨r, rfl, fun h => ?_, hb.trans (hb2.mono hb.size)⟩
        rw [HRR.out, decide_eq_true_eq] at h
        exact ⟨hl, h⟩
      · go_wp2_with fail
        refine (read_no _ L A.length _ (HI2.out _ (Below.refl _ _)) (by omega) (by omega)).mono ?_
        rintro e w1 ⟨rfl, hb⟩
        go_wp2
        go_ret
        exact ⟨false, rfl, fun h => (by cases h), hb⟩

/-- 'zzBytes_PropPathOpsMatchNibbleLists': it answers, whatever it says. -/
theorem bytes_any (v0 v1 v2 v3 v4 : Value) (A0 A1 A2 A3 A4 : List Int) (t : Int) (w : World) (h0 : IsB w v0 A0) (h1 : IsB w v1 A1) (h2 : IsB w v2 A2) (h3 : IsB w v3 A3) (h4 : IsB w v4 A4) :
    Calls Try.prog 6 #[v0, v1, v2, v3, v4, .int .u8 t] w fun e w' => ∃ r : Bool, e = .returned (.bool r) ∧ w' = w := by
  obtain ⟨a0, c0, rfl, e0, m0, _, _⟩ := h0
  obtain ⟨a1, c1, rfl, e1, m1, _, _⟩ := h1
  obtain ⟨a2, c2, rfl, e2, m2, _, _⟩ := h2
  obtain ⟨a3, c3, rfl, e3, m3, _, _⟩ := h3
  obtain ⟨a4, c4, rfl, e4, m4, _, _⟩ := h4
  unfold maxLen at m0 m1 m2 m3 m4
  go_enter Try.func6, Try.ntmps6
  go_wp2
  all_goals
    go_ret
    exact ⟨_, rfl, rfl⟩

/-- The premises of the law, as 'c2OutsidePathOps' tests them. -/
def Inside (A L B M K : List Int) (t : Int) : Prop :=
  A.length ≤ 65536 ∧ B.length ≤ 65536 ∧ L.length ≤ 1048576 ∧ M.length ≤ 1048576 ∧ K.length ≤ 32768 ∧ t ≤ 15 ∧ HoldsTok A L ∧ HoldsTok B M

/-- 'c2OutsidePathOps': where it says no, the premises hold. -/
theorem outside_any (v0 v1 v2 v3 v4 : Value) (A L B M K : List Int) (t : Int) (w : World) (h0 : IsB w v0 A) (h1 : IsB w v1 L) (h2 : IsB w v2 B) (h3 : IsB w v3 M) (h4 : IsB w v4 K) :
    Calls Try.prog 7 #[v0, v1, v2, v3, v4, .int .u8 t] w fun e w' => Says false (Inside A L B M K t) w e w' := by
  have HR1 : Hid (A.length ≤ 65536 → ∀ W, Below w.heap.size w W → Calls Try.prog 34 #[v0, v1] W fun e w' => Says true (HoldsTok A L) W e w') := fun hA W hW => repr_any v0 v1 A L W (h0.below hW) (h1.below hW) hA
  have HR2 : Hid (B.length ≤ 65536 → ∀ W, Below w.heap.size w W → Calls Try.prog 34 #[v2, v3] W fun e w' => Says true (HoldsTok B M) W e w') := fun hB W hW => repr_any v2 v3 B M W (h2.below hW) (h3.below hW) hB
  obtain ⟨a0, c0, hv0, e0, m0, _, _⟩ := h0
  obtain ⟨a1, c1, hv1, e1, m1, _, _⟩ := h1
  obtain ⟨a2, c2, hv2, e2, m2, _, _⟩ := h2
  obtain ⟨a3, c3, hv3, e3, m3, _, _⟩ := h3
  obtain ⟨a4, c4, hv4, e4, m4, _, _⟩ := h4
  unfold maxLen at m0 m1 m2 m3 m4
  rw [hv0, hv1] at HR1
  rw [hv2, hv3] at HR2
  rw [hv0, hv1, hv2, hv3, hv4]
  clear hv0 hv1 hv2 hv3 hv4
  by_cases g0 : 65536 < A.length
  · have d0 : decide (65536 < (A.length : Int)) = true := by simp; omega
    go_enter Try.func7, Try.ntmps7
    go_wp2
    go_ret
    exact ⟨true, rfl, fun h => (by cases h), Below.refl _ _⟩
  have d0 : decide (65536 < (A.length : Int)) = false := by simp; omega
  by_cases g1 : 65536 < B.length
  · have d1 : decide (65536 < (B.length : Int)) = true := by simp; omega
    go_enter Try.func7, Try.ntmps7
    go_wp2
    go_ret
    exact ⟨true, rfl, fun h => (by cases h), Below.refl _ _⟩
  have d1 : decide (65536 < (B.length : Int)) = false := by simp; omega
  by_cases g2 : 1048576 < L.length
  · have d2 : decide (1048576 < (L.length : Int)) = true := by simp; omega
    go_enter Try.func7, Try.ntmps7
    go_wp2
    go_ret
    exact ⟨true, rfl, fun h => (by cases h), Below.refl _ _⟩
  have d2 : decide (1048576 < (L.length : Int)) = false := by simp; omega
  by_cases g3 : 1048576 < M.length
  · have d3 : decide (1048576 < (M.length : Int)) = true := by simp; omega
    go_enter Try.func7, Try.ntmps7
    go_wp2
    go_ret
    exact ⟨true, rfl, fun h => (by cases h), Below.refl _ _⟩
  have d3 : decide (1048576 < (M.length : Int)) = false := by simp; omega
  by_cases g4 : 32768 < K.length
  · have d4 : decide (32768 < (K.length : Int)) = true := by simp; omega
    go_enter Try.func7, Try.ntmps7
    go_wp2
    go_ret
    exact ⟨true, rfl, fun h => (by cases h), Below.refl _ _⟩
  have d4 : decide (32768 < (K.length : Int)) = false := by simp; omega
  by_cases g5 : 15 < t
  · have d5 : decide (15 < t) = true := by simp; omega
    go_enter Try.func7, Try.ntmps7
    go_wp2
    go_ret
    exact ⟨true, rfl, fun h => (by cases h), Below.refl _ _⟩
  have d5 : decide (15 < t) = false := by simp; omega
  go_enter Try.func7, Try.ntmps7
  go_wp2_with fail
  refine (HR1.out (by omega) _ (Below.refl _ _)).mono ?_
  rintro e w1 ⟨r1, rfl, hr1, hb1⟩
  cases r1 with
  | false =>
    go_wp2
    go_ret
    exact ⟨true, rfl, fun h => (by cases h), hb1⟩
  | true =>
    have HC1 : Hid (HoldsTok A L) := hr1 rfl
    clear hr1
    go_wp2_with fail
    refine (HR2.out (by omega) _ hb1).mono ?_
    rintro e w2 ⟨r2, rfl, hr2, hb2⟩
    cases r2 with
    | false =>
      go_wp2
      go_ret
      exact ⟨true, rfl, fun h => (by cases h), hb1.trans (hb2.mono hb1.size)⟩
    | true =>
      have HC2 : Hid (HoldsTok B M) := hr2 rfl
      clear hr2
      go_wp2
      go_ret
      exact ⟨false, rfl, fun _ => ⟨by omega, by omega, by omega, by omega, by omega, by omega, HC1.out, HC2.out⟩, hb1.trans (hb2.mono hb1.size)⟩
end Go.Proofs.Qxb6003407a
