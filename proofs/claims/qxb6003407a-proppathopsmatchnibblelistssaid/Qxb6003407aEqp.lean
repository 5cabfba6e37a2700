/-
  'path.equal'; 'ZZCommonPrefix', 'ZZPathEqual'.
-/
import Derived.Test.Qxb6003407aCom
namespace Go.Proofs.Qxb6003407a
open Go.RowKit

/-- 'path.equal'. -/
theorem equal_any (vp vq : Value) (P Q : List Int) (pn qn : Nat) (w : World) (hp : IsB w vp P) (hq : IsB w vq Q) (hpn : (pn + 1) / 2 ≤ P.length) (hqn : (qn + 1) / 2 ≤ Q.length) (hP : P.length ≤ 1048576) (hQ : Q.length ≤ 1048576) (hp2 : pn ≤ 65536) (hq2 : qn ≤ 65536) :
    Calls Try.prog 41 #[.agg #[vp, .int .i64 pn], .agg #[vq, .int .i64 qn]] w fun e w' => e = .returned (.bool (decide (tab (nib P) pn = tab (nib Q) qn))) ∧ Below w.heap.size w w' := by
  have H : Hid (∀ W, Below w.heap.size w W → Calls Try.prog 40 #[.agg #[vp, .int .i64 pn], .agg #[vq, .int .i64 qn]] W fun e w' => ∃ r : Nat, e = .returned (.int .i64 r) ∧ IsLcp (tab (nib P) pn) (tab (nib Q) qn) r ∧ Below W.heap.size W w') := fun W hW => common_any vp vq P Q pn qn W (hp.below hW) (hq.below hW) hpn hqn hP hQ hp2 hq2
  obtain ⟨a, m0, c, hv⟩ := hp.slice
  obtain ⟨a', m0', c', hv'⟩ := hq.slice
  rw [hv, hv'] at H ⊢
  clear hv hv' hp hq
  by_cases he : pn = qn
  · have i0 : ((pn : Int) == (qn : Int)) = true := by simp; omega
    have HE : Hid (pn = qn) := he
    clear he
    go_enter Try.func41, Try.ntmps41
    go_wp2
    obtain ⟨W, hW⟩ : ∃ W : World, W = ((w.alloc (.cells #[.slice a m0 c, .int .i64 pn] 57)).alloc (.cells #[.slice a' m0' c', .int .i64 qn] 57)) := ⟨_, rfl⟩
    have hx1 : Box W w.heap.size (.slice a m0 c) (.int .i64 pn) := by rw [hW]; exact (box_new w _ _).alloc _
    have hx2 : Box W (w.heap.size + 1) (.slice a' m0' c') (.int .i64 qn) := by rw [hW]; exact box_new_at _ _ _ _ (by simp)
    have hbl : Below w.heap.size w W := by rw [hW]; exact ((Below.refl _ _).alloc (Nat.le_refl _) _).alloc (by simp) _
    rw [← hW]
    clear hW
    have HX1r : Hid (Box W.drew (w.heap.size) (.slice a m0 c) (.int .i64 pn)) := hx1
    have HX2r : Hid (Box W.drew (w.heap.size + 1) (.slice a' m0' c') (.int .i64 qn)) := hx2
    have HBLr : Hid (Below w.heap.size w W.drew) := hbl.drew
    have g1 := hx1.c0
    have g2 := hx1.c1
    have g3 := hx2.c0
    have g4 := hx2.c1
    clear hx1 hx2 hbl
    go_region_held3 (fun w' => w'.cell? ⟨w.heap.size, 0, none⟩ = some (.slice a m0 c) ∧ w'.cell? ⟨w.heap.size, 1, none⟩ = some (.int .i64 pn) ∧ w'.cell? ⟨w.heap.size + 1, 0, none⟩ = some (.slice a' m0' c') ∧ w'.cell? ⟨w.heap.size + 1, 1, none⟩ = some (.int .i64 qn)) (first | (exact ⟨HX1r.out.c0, HX1r.out.c1, HX2r.out.c0, HX2r.out.c1⟩) | (exact ⟨(HX1r.out.below hb1).c0, (HX1r.out.below hb1).c1, (HX2r.out.below hb1).c0, (HX2r.out.below hb1).c1⟩))
      (first | (go_at_call 40; refine (H.out _ ?_).mono ?_; (exact HBLr.out); rintro e w1 ⟨r, rfl, hr, hb1⟩))
    go_wp2
    go_ret
    refine ⟨ret_bool ?_, HBLr.out.trans (hb1.mono HBLr.out.size)⟩
    have hi := hr.eq_iff
    rw [tab_length, tab_length] at hi
    rw [Bool.eq_iff_iff, decide_eq_true_eq, hi, beq_iff_eq]
    have := HE.out
    omega
  · have i0 : ((pn : Int) == (qn : Int)) = false := by simp; omega
    go_enter Try.func41, Try.ntmps41
    go_wp2
    go_quiet (fail)
    go_wp2
    go_ret
    refine ⟨ret_bool ?_, below_drewN (((Below.refl _ _).alloc (Nat.le_refl _) _).alloc (by simp) _) _⟩
    rw [eq_comm, decide_eq_false_iff_not]
    intro e
    have := congrArg List.length e
    rw [tab_length, tab_length] at this
    exact he this

/-- 'ZZCommonPrefix'. -/
theorem zcommon_any (vp vq : Value) (P Q : List Int) (pn qn : Nat) (w : World) (hp : IsB w vp P) (hq : IsB w vq Q) (hpn : (pn + 1) / 2 ≤ P.length) (hqn : (qn + 1) / 2 ≤ Q.length) (hP : P.length ≤ 1048576) (hQ : Q.length ≤ 1048576) (hp2 : pn ≤ 65536) (hq2 : qn ≤ 65536) :
    Calls Try.prog 17 #[vp, .int .i64 pn, vq, .int .i64 qn] w fun e w' => ∃ r : Nat, e = .returned (.int .i64 r) ∧ IsLcp (tab (nib P) pn) (tab (nib Q) qn) r ∧ Below w.heap.size w w' := by
  have H : Hid (∀ W, Below w.heap.size w W → Calls Try.prog 40 #[.agg #[vp, .int .i64 pn], .agg #[vq, .int .i64 qn]] W fun e w' => ∃ r : Nat, e = .returned (.int .i64 r) ∧ IsLcp (tab (nib P) pn) (tab (nib Q) qn) r ∧ Below W.heap.size W w') := fun W hW => common_any vp vq P Q pn qn W (hp.below hW) (hq.below hW) hpn hqn hP hQ hp2 hq2
  obtain ⟨a, m0, c, hv⟩ := hp.slice
  obtain ⟨a', m0', c', hv'⟩ := hq.slice
  rw [hv, hv'] at H ⊢
  clear hv hv' hp hq
  go_enter Try.func17, Try.ntmps17
  go_wp2_with fail
  refine (H.out _ (Below.refl _ _)).mono ?_
  rintro e w1 ⟨r, rfl, hr, hb⟩
  have HR : Hid (IsLcp (tab (nib P) pn) (tab (nib Q) qn) r) := hr
  clear hr
  go_wp2
  go_ret
  exact ⟨r, rfl, HR.out, hb⟩

/-- 'ZZPathEqual'. -/
theorem zequal_any (vp vq : Value) (P Q : List Int) (pn qn : Nat) (w : World) (hp : IsB w vp P) (hq : IsB w vq Q) (hpn : (pn + 1) / 2 ≤ P.length) (hqn : (qn + 1) / 2 ≤ Q.length) (hP : P.length ≤ 1048576) (hQ : Q.length ≤ 1048576) (hp2 : pn ≤ 65536) (hq2 : qn ≤ 65536) :
    Calls Try.prog 18 #[vp, .int .i64 pn, vq, .int .i64 qn] w fun e w' => e = .returned (.bool (decide (tab (nib P) pn = tab (nib Q) qn))) ∧ Below w.heap.size w w' := by
  obtain ⟨r, hr⟩ : ∃ r, r = decide (tab (nib P) pn = tab (nib Q) qn) := ⟨_, rfl⟩
  have H : Hid (∀ W, Below w.heap.size w W → Calls Try.prog 41 #[.agg #[vp, .int .i64 pn], .agg #[vq, .int .i64 qn]] W fun e w' => e = .returned (.bool r) ∧ Below W.heap.size W w') := fun W hW => by
    rw [hr]
    exact equal_any vp vq P Q pn qn W (hp.below hW) (hq.below hW) hpn hqn hP hQ hp2 hq2
  rw [← hr]
  clear hr
  obtain ⟨a, m0, c, hv⟩ := hp.slice
  obtain ⟨a', m0', c', hv'⟩ := hq.slice
  rw [hv, hv'] at H ⊢
  clear hv hv' hp hq
  go_enter Try.func18, Try.ntmps18
  go_wp2_with fail
  refine (H.out _ (Below.refl _ _)).mono ?_
  rintro e w1 ⟨rfl, hb⟩
  go_wp2
  go_ret
  exact ⟨rfl, hb⟩
end Go.Proofs.Qxb6003407a
