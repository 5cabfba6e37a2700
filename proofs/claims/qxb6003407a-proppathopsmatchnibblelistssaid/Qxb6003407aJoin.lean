/-
  'join'.
-/
import Derived.Test.Qxb6003407aAt
import Derived.Test.Qxb6003407aNibs
import Derived.Deep.RegionHeld3
import Derived.RegionTactic
namespace Go.Proofs.Qxb6003407a
open Go.RowKit

/-- The tokens of P, then those of Q. -/
def catN (P Q : List Int) (pn j : Nat) : Int := if j < pn then nib P j else nib Q (j - pn)
theorem catN_left {P Q : List Int} {pn j : Nat} (h : j < pn) : nib P j = catN P Q pn j := by unfold catN; rw [if_pos h]
theorem catN_right {P Q : List Int} {pn j : Nat} : nib Q j = catN P Q pn (pn + j) := by unfold catN; rw [if_neg (by omega), Nat.add_sub_cancel_left]
theorem catN_bd {P Q : List Int} (hP : Byt P) (hQ : Byt Q) (pn j : Nat) : 0 ≤ catN P Q pn j ∧ catN P Q pn j ≤ 15 := by
  unfold catN
  split
  · exact nib_bd hP j
  · exact nib_bd hQ _

set_option maxHeartbeats 1000000 in
/-- 'join'. -/
theorem join_any (vp vq : Value) (P Q : List Int) (pn qn : Nat) (w : World) (hp : IsB w vp P) (hq : IsB w vq Q) (hpn : (pn + 1) / 2 ≤ P.length) (hqn : (qn + 1) / 2 ≤ Q.length) (hP : P.length ≤ 1048576) (hQ : Q.length ≤ 1048576) (hp2 : pn ≤ 65536) (hq2 : qn ≤ 65536) :
    Calls Try.prog 38 #[.agg #[vp, .int .i64 pn], .agg #[vq, .int .i64 qn]] w fun e w' => Made (catN P Q pn) (pn + qn) w e w' := by
  obtain ⟨a, m0, c, hv⟩ := hp.slice
  obtain ⟨a', m0', c', hv'⟩ := hq.slice
  rw [hv, hv']
  rw [hv] at hp
  rw [hv'] at hq
  clear hv hv'
  obtain ⟨m, hm⟩ : ∃ m, m = (pn + qn + 1) / 2 := ⟨_, rfl⟩
  have hmk := fun W => mk W m (((pn : Int) + (qn : Int) + 1) / 2) (by omega) (by omega)
  obtain ⟨N, hN⟩ : ∃ N : Nat → Int, N = catN P Q pn := ⟨_, rfl⟩
  have HN1 : Hid (∀ j, j < pn → nib P j = N j) := fun j hj => by rw [hN]; exact catN_left hj
  have HN2 : Hid (∀ j, nib Q j = N (pn + j)) := fun j => by rw [hN]; exact catN_right
  have HM : Hid (m = (pn + qn + 1) / 2) := hm
  have HNB : Hid (∀ j, 0 ≤ N j ∧ N j ≤ 15) := fun j => by rw [hN]; exact catN_bd hp.byt hq.byt pn j
  have HIP : Hid (∀ W, Below w.heap.size w W → IsB W (.slice a m0 c) P) := fun W hW => hp.below hW
  have HIQ : Hid (∀ W, Below w.heap.size w W → IsB W (.slice a' m0' c') Q) := fun W hW => hq.below hW
  rw [← hN]
  clear hN hm hp hq
  go_enter Try.func38, Try.ntmps38
  go_wp2
  go_region
  · -- the row at w.heap.size + 1 + 1 + 1, the variable at w.heap.size + 1 + 1 + 1 + 1
    go_wp2
    go_loopw [24] (fun x wr => ∃ k : Nat, k ≤ pn ∧ x = .int .i64 k ∧ Own wr (w.heap.size + 1 + 1 + 1) (pk N k m) ∧ Box wr (w.heap.size) (.slice a m0 c) (.int .i64 pn) ∧ Box wr (w.heap.size + 1) (.slice a' m0' c') (.int .i64 qn) ∧ Box wr (w.heap.size + 1 + 1) (.slice none 0 0) (.int .i64 0) ∧ Box wr (w.heap.size + 1 + 1 + 1 + 1) (.slice (some ⟨w.heap.size + 1 + 1 + 1, 0, none⟩) m m) (.int .i64 ((pn : Int) + (qn : Int))) ∧ Below w.heap.size w wr) (fun x _ => pn - (intOf x).toNat)
    case atStart =>
      refine ⟨0, Nat.zero_le _, rfl, ?_, ((((box_new w _ _).alloc _).alloc _).alloc _).alloc _, (((box_new_at _ _ _ _ (by simp)).alloc _).alloc _).alloc _, ((box_new_at _ _ _ _ (by simp)).alloc _).alloc _, ?_, (((((Below.refl _ _).alloc (Nat.le_refl _) _).alloc (by simp) _).alloc (by simp; omega) _).alloc (by simp; omega) _).alloc (by simp; omega) _ |>.drew⟩
      · rw [pk_zero]
        exact (own_zer_at _ _ _ (by simp)).alloc _
      · exact box_new_at _ _ _ _ (by simp)
    case round =>
      obtain ⟨k, hk, rfl, ho, hx1, hx2, hx4, hx3, hbl⟩ := hrel
      by_cases hlt : k < pn
      · have j1 : (k : Int) < (pn : Int) := by omega
        have q1 := hx1.c0
        have q2 := hx1.c1
        have q3 := hx3.c0
        have q4 := hx3.c1
        have HO : Hid (Own wr.drew (w.heap.size + 1 + 1 + 1) (pk N k m)) := ho
        have HX1 : Hid (Box wr.drew (w.heap.size) (.slice a m0 c) (.int .i64 pn)) := hx1
        have HX2 : Hid (Box wr.drew (w.heap.size + 1) (.slice a' m0' c') (.int .i64 qn)) := hx2
        have HX4 : Hid (Box wr.drew (w.heap.size + 1 + 1) (.slice none 0 0) (.int .i64 0)) := hx4
        have HX3 : Hid (Box wr.drew (w.heap.size + 1 + 1 + 1 + 1) (.slice (some ⟨w.heap.size + 1 + 1 + 1, 0, none⟩) m m) (.int .i64 ((pn : Int) + (qn : Int)))) := hx3
        have HBL : Hid (Below w.heap.size w wr.drew) := hbl.drew
        clear ho hx1 hx2 hx3 hx4 hbl
        go_wp2
        go_region_held3 (fun w' => w'.cell? ⟨w.heap.size + 1 + 1 + 1 + 1, 0, none⟩ = some (.slice (some ⟨w.heap.size + 1 + 1 + 1, 0, none⟩) m m) ∧ w'.cell? ⟨w.heap.size + 1 + 1 + 1 + 1, 1, none⟩ = some (.int .i64 ((pn : Int) + (qn : Int))) ∧ w'.cell? ⟨w.heap.size, 0, none⟩ = some (.slice a m0 c) ∧ w'.cell? ⟨w.heap.size, 1, none⟩ = some (.int .i64 pn)) (first | (exact ⟨HX3.out.c0, HX3.out.c1, HX1.out.c0, HX1.out.c1⟩) | (exact ⟨(HX3.out.below hb1).c0, (HX3.out.below hb1).c1, (HX1.out.below hb1).c0, (HX1.out.below hb1).c1⟩) | (exact ⟨((HX3.out.below hb1).grown hg2 (by omega)).c0, ((HX3.out.below hb1).grown hg2 (by omega)).c1, ((HX1.out.below hb1).grown hg2 (by omega)).c0, ((HX1.out.below hb1).grown hg2 (by omega)).c1⟩))
          (first | (go_at_call 35; refine (at_int _ P _ _ k _ ?_ ?_ ?_ ?_).mono ?_; (rfl); (exact HIP.out _ HBL.out); (omega); (omega); rintro e w1 ⟨rfl, hb1⟩)
                 | (go_at_call 51; refine (set_int (w.heap.size + 1 + 1 + 1) m _ N HNB.out _ _ _ k _ ?_ ?_ ?_ ?_ ?_).mono ?_; (rfl); (exact HN1.out k hlt); (exact HO.out.below hb1); (have := HM.out; omega); (have := HM.out; omega); rintro e w2 ⟨rfl, ho2, hg2⟩))
        go_wp2
        go_roundw
        case rel =>
          refine ⟨k + 1, by omega, by go_num, ho2, (HX1.out.below hb1).grown hg2 (by omega), (HX2.out.below hb1).grown hg2 (by omega), (HX4.out.below hb1).grown hg2 (by omega), (HX3.out.below hb1).grown hg2 (by omega), ?_⟩
          exact below_grown (HBL.out.trans (hb1.mono HBL.out.size)) (by have := HBL.out.size; have := hb1.size; omega) hg2 (by omega)
        case measure => simp [intOf]; omega
      · obtain rfl : k = pn := by omega
        have q1 := hx2.c0
        have q2 := hx2.c1
        have HO : Hid (Own wr (w.heap.size + 1 + 1 + 1) (pk N k m)) := ho
        have HX1 : Hid (Box wr (w.heap.size) (.slice a m0 c) (.int .i64 k)) := hx1
        have HX2 : Hid (Box wr (w.heap.size + 1) (.slice a' m0' c') (.int .i64 qn)) := hx2
        have HX4 : Hid (Box wr (w.heap.size + 1 + 1) (.slice none 0 0) (.int .i64 0)) := hx4
        have HX3 : Hid (Box wr (w.heap.size + 1 + 1 + 1 + 1) (.slice (some ⟨w.heap.size + 1 + 1 + 1, 0, none⟩) m m) (.int .i64 ((k : Int) + (qn : Int)))) := hx3
        have HBL : Hid (Below w.heap.size w wr) := hbl
        clear ho hx1 hx2 hx3 hx4 hbl
        go_wp2
        go_loopw [36] (fun x wr => ∃ k2 : Nat, k2 ≤ qn ∧ x = .int .i64 k2 ∧ Own wr (w.heap.size + 1 + 1 + 1) (pk N (k + k2) m) ∧ Box wr (w.heap.size) (.slice a m0 c) (.int .i64 k) ∧ Box wr (w.heap.size + 1) (.slice a' m0' c') (.int .i64 qn) ∧ Box wr (w.heap.size + 1 + 1) (.slice none 0 0) (.int .i64 0) ∧ Box wr (w.heap.size + 1 + 1 + 1 + 1) (.slice (some ⟨w.heap.size + 1 + 1 + 1, 0, none⟩) m m) (.int .i64 ((k : Int) + (qn : Int))) ∧ Below w.heap.size w wr) (fun x _ => qn - (intOf x).toNat)
        case atStart => exact ⟨0, Nat.zero_le _, rfl, HO.out, HX1.out, HX2.out, HX4.out, HX3.out, HBL.out⟩
        case round =>
          clear HO HX1 HX2 HX4 HX3 HBL q1 q2
          obtain ⟨k2, hk2, rfl, ho, hx1, hx2, hx4, hx3, hbl⟩ := hrel
          by_cases hlt2 : k2 < qn
          · have j1 : (k2 : Int) < (qn : Int) := by omega
            have q1 := hx1.c0
            have q2 := hx1.c1
            have q3 := hx3.c0
            have q4 := hx3.c1
            have q5 := hx2.c0
            have q6 := hx2.c1
            have HO : Hid (Own wr.drew (w.heap.size + 1 + 1 + 1) (pk N (k + k2) m)) := ho
            have HX1 : Hid (Box wr.drew (w.heap.size) (.slice a m0 c) (.int .i64 k)) := hx1
            have HX2 : Hid (Box wr.drew (w.heap.size + 1) (.slice a' m0' c') (.int .i64 qn)) := hx2
            have HX4 : Hid (Box wr.drew (w.heap.size + 1 + 1) (.slice none 0 0) (.int .i64 0)) := hx4
            have HX3 : Hid (Box wr.drew (w.heap.size + 1 + 1 + 1 + 1) (.slice (some ⟨w.heap.size + 1 + 1 + 1, 0, none⟩) m m) (.int .i64 ((k : Int) + (qn : Int)))) := hx3
            have HBL : Hid (Below w.heap.size w wr.drew) := hbl.drew
            clear ho hx1 hx2 hx3 hx4 hbl
            go_wp2
            go_region_held3 (fun w' => w'.cell? ⟨w.heap.size + 1 + 1 + 1 + 1, 0, none⟩ = some (.slice (some ⟨w.heap.size + 1 + 1 + 1, 0, none⟩) m m) ∧ w'.cell? ⟨w.heap.size + 1 + 1 + 1 + 1, 1, none⟩ = some (.int .i64 ((k : Int) + (qn : Int))) ∧ w'.cell? ⟨w.heap.size, 1, none⟩ = some (.int .i64 k) ∧ w'.cell? ⟨w.heap.size + 1, 0, none⟩ = some (.slice a' m0' c') ∧ w'.cell? ⟨w.heap.size + 1, 1, none⟩ = some (.int .i64 qn)) (first | (exact ⟨HX3.out.c0, HX3.out.c1, HX1.out.c1, HX2.out.c0, HX2.out.c1⟩) | (exact ⟨(HX3.out.below hb1).c0, (HX3.out.below hb1).c1, (HX1.out.below hb1).c1, (HX2.out.below hb1).c0, (HX2.out.below hb1).c1⟩) | (exact ⟨((HX3.out.below hb1).grown hg2 (by omega)).c0, ((HX3.out.below hb1).grown hg2 (by omega)).c1, ((HX1.out.below hb1).grown hg2 (by omega)).c1, ((HX2.out.below hb1).grown hg2 (by omega)).c0, ((HX2.out.below hb1).grown hg2 (by omega)).c1⟩))
              (first | (go_at_call 35; refine (at_int _ Q _ _ k2 _ ?_ ?_ ?_ ?_).mono ?_; (rfl); (exact HIQ.out _ HBL.out); (omega); (omega); rintro e w1 ⟨rfl, hb1⟩)
                     | (go_at_call 51; refine (set_int (w.heap.size + 1 + 1 + 1) m _ N HNB.out _ _ _ (k + k2) _ ?_ ?_ ?_ ?_ ?_).mono ?_; (rw [IntKind.wrap_i64]; omega); (exact HN2.out k2); (exact HO.out.below hb1); (have := HM.out; omega); (have := HM.out; omega); rintro e w2 ⟨rfl, ho2, hg2⟩))
            go_wp2
            go_roundw
            case rel =>
              refine ⟨k2 + 1, by omega, by go_num, ho2, (HX1.out.below hb1).grown hg2 (by omega), (HX2.out.below hb1).grown hg2 (by omega), (HX4.out.below hb1).grown hg2 (by omega), (HX3.out.below hb1).grown hg2 (by omega), ?_⟩
              exact below_grown (HBL.out.trans (hb1.mono HBL.out.size)) (by have := HBL.out.size; have := hb1.size; omega) hg2 (by omega)
            case measure => simp [intOf]; omega
          · obtain rfl : k2 = qn := by omega
            have q3 := hx3.c0
            have q4 := hx3.c1
            have r1 := hx4.c0
            have r2 := hx4.c1
            have r3 := hx4.f 0
            have r4 := hx4.f 1
            have HO : Hid (Own wr (w.heap.size + 1 + 1 + 1) (pk N (k + k2) m)) := ho
            have HX4 : Hid (Box wr (w.heap.size + 1 + 1) (.slice none 0 0) (.int .i64 0)) := hx4
            have HBL : Hid (Below w.heap.size w wr) := hbl
            clear ho hx1 hx2 hx3 hx4 hbl
            go_wp2
            have hst := HX4.out.store (.slice (some ⟨w.heap.size + 1 + 1 + 1, 0, none⟩) m m) (.int .i64 ((k : Int) + (k2 : Int)))
            have hs0 := hst.c0
            have hs1 := hst.c1
            refine bodyPost_ret (v := .agg #[.slice (some ⟨w.heap.size + 1 + 1 + 1, 0, none⟩) m m, .int .i64 ((k : Int) + (k2 : Int))]) (by simp [results, Try.results38, go_sem, hs0, hs1]) rfl (made_mk (by omega) ((HO.out.other (by omega)).other (by omega)) HM.out (by omega) HNB.out ?_)
            exact (HBL.out.setCell (p := ⟨w.heap.size + 1 + 1, 0, none⟩) (by simp; omega) _).setCell (p := ⟨w.heap.size + 1 + 1, 1, none⟩) (by simp; omega) _
  · -- the row at w.heap.size + 1 + 1 + 1 + 1, the variable at w.heap.size + 1 + 1 + 1
    go_wp2
    go_loopw [24] (fun x wr => ∃ k : Nat, k ≤ pn ∧ x = .int .i64 k ∧ Own wr (w.heap.size + 1 + 1 + 1 + 1) (pk N k m) ∧ Box wr (w.heap.size) (.slice a m0 c) (.int .i64 pn) ∧ Box wr (w.heap.size + 1) (.slice a' m0' c') (.int .i64 qn) ∧ Box wr (w.heap.size + 1 + 1) (.slice none 0 0) (.int .i64 0) ∧ Box wr (w.heap.size + 1 + 1 + 1) (.slice (some ⟨w.heap.size + 1 + 1 + 1 + 1, 0, none⟩) m m) (.int .i64 ((pn : Int) + (qn : Int))) ∧ Below w.heap.size w wr) (fun x _ => pn - (intOf x).toNat)
    case atStart =>
      refine ⟨0, Nat.zero_le _, rfl, ?_, ((((box_new w _ _).alloc _).alloc _).alloc _).alloc _, (((box_new_at _ _ _ _ (by simp)).alloc _).alloc _).alloc _, ((box_new_at _ _ _ _ (by simp)).alloc _).alloc _, ?_, (((((Below.refl _ _).alloc (Nat.le_refl _) _).alloc (by simp) _).alloc (by simp; omega) _).alloc (by simp; omega) _).alloc (by simp; omega) _ |>.drew⟩
      · rw [pk_zero]
        exact own_zer_at _ _ _ (by simp)
      · exact (box_new_at _ _ _ _ (by simp)).alloc _
    case round =>
      obtain ⟨k, hk, rfl, ho, hx1, hx2, hx4, hx3, hbl⟩ := hrel
      by_cases hlt : k < pn
      · have j1 : (k : Int) < (pn : Int) := by omega
        have q1 := hx1.c0
        have q2 := hx1.c1
        have q3 := hx3.c0
        have q4 := hx3.c1
        have HO : Hid (Own wr.drew (w.heap.size + 1 + 1 + 1 + 1) (pk N k m)) := ho
        have HX1 : Hid (Box wr.drew (w.heap.size) (.slice a m0 c) (.int .i64 pn)) := hx1
        have HX2 : Hid (Box wr.drew (w.heap.size + 1) (.slice a' m0' c') (.int .i64 qn)) := hx2
        have HX4 : Hid (Box wr.drew (w.heap.size + 1 + 1) (.slice none 0 0) (.int .i64 0)) := hx4
        have HX3 : Hid (Box wr.drew (w.heap.size + 1 + 1 + 1) (.slice (some ⟨w.heap.size + 1 + 1 + 1 + 1, 0, none⟩) m m) (.int .i64 ((pn : Int) + (qn : Int)))) := hx3
        have HBL : Hid (Below w.heap.size w wr.drew) := hbl.drew
        clear ho hx1 hx2 hx3 hx4 hbl
        go_wp2
        go_region_held3 (fun w' => w'.cell? ⟨w.heap.size + 1 + 1 + 1, 0, none⟩ = some (.slice (some ⟨w.heap.size + 1 + 1 + 1 + 1, 0, none⟩) m m) ∧ w'.cell? ⟨w.heap.size + 1 + 1 + 1, 1, none⟩ = some (.int .i64 ((pn : Int) + (qn : Int))) ∧ w'.cell? ⟨w.heap.size, 0, none⟩ = some (.slice a m0 c) ∧ w'.cell? ⟨w.heap.size, 1, none⟩ = some (.int .i64 pn)) (first | (exact ⟨HX3.out.c0, HX3.out.c1, HX1.out.c0, HX1.out.c1⟩) | (exact ⟨(HX3.out.below hb1).c0, (HX3.out.below hb1).c1, (HX1.out.below hb1).c0, (HX1.out.below hb1).c1⟩) | (exact ⟨((HX3.out.below hb1).grown hg2 (by omega)).c0, ((HX3.out.below hb1).grown hg2 (by omega)).c1, ((HX1.out.below hb1).grown hg2 (by omega)).c0, ((HX1.out.below hb1).grown hg2 (by omega)).c1⟩))
          (first | (go_at_call 35; refine (at_int _ P _ _ k _ ?_ ?_ ?_ ?_).mono ?_; (rfl); (exact HIP.out _ HBL.out); (omega); (omega); rintro e w1 ⟨rfl, hb1⟩)
                 | (go_at_call 51; refine (set_int (w.heap.size + 1 + 1 + 1 + 1) m _ N HNB.out _ _ _ k _ ?_ ?_ ?_ ?_ ?_).mono ?_; (rfl); (exact HN1.out k hlt); (exact HO.out.below hb1); (have := HM.out; omega); (have := HM.out; omega); rintro e w2 ⟨rfl, ho2, hg2⟩))
        go_wp2
        go_roundw
        case rel =>
          refine ⟨k + 1, by omega, by go_num, ho2, (HX1.out.below hb1).grown hg2 (by omega), (HX2.out.below hb1).grown hg2 (by omega), (HX4.out.below hb1).grown hg2 (by omega), (HX3.out.below hb1).grown hg2 (by omega), ?_⟩
          exact below_grown (HBL.out.trans (hb1.mono HBL.out.size)) (by have := HBL.out.size; have := hb1.size; omega) hg2 (by omega)
        case measure => simp [intOf]; omega
      · obtain rfl : k = pn := by omega
        have q1 := hx2.c0
        have q2 := hx2.c1
        have HO : Hid (Own wr (w.heap.size + 1 + 1 + 1 + 1) (pk N k m)) := ho
        have HX1 : Hid (Box wr (w.heap.size) (.slice a m0 c) (.int .i64 k)) := hx1
        have HX2 : Hid (Box wr (w.heap.size + 1) (.slice a' m0' c') (.int .i64 qn)) := hx2
        have HX4 : Hid (Box wr (w.heap.size + 1 + 1) (.slice none 0 0) (.int .i64 0)) := hx4
        have HX3 : Hid (Box wr (w.heap.size + 1 + 1 + 1) (.slice (some ⟨w.heap.size + 1 + 1 + 1 + 1, 0, none⟩) m m) (.int .i64 ((k : Int) + (qn : Int)))) := hx3
        have HBL : Hid (Below w.heap.size w wr) := hbl
        clear ho hx1 hx2 hx3 hx4 hbl
        go_wp2
        go_loopw [36] (fun x wr => ∃ k2 : Nat, k2 ≤ qn ∧ x = .int .i64 k2 ∧ Own wr (w.heap.size + 1 + 1 + 1 + 1) (pk N (k + k2) m) ∧ Box wr (w.heap.size) (.slice a m0 c) (.int .i64 k) ∧ Box wr (w.heap.size + 1) (.slice a' m0' c') (.int .i64 qn) ∧ Box wr (w.heap.size + 1 + 1) (.slice none 0 0) (.int .i64 0) ∧ Box wr (w.heap.size + 1 + 1 + 1) (.slice (some ⟨w.heap.size + 1 + 1 + 1 + 1, 0, none⟩) m m) (.int .i64 ((k : Int) + (qn : Int))) ∧ Below w.heap.size w wr) (fun x _ => qn - (intOf x).toNat)
        case atStart => exact ⟨0, Nat.zero_le _, rfl, HO.out, HX1.out, HX2.out, HX4.out, HX3.out, HBL.out⟩
        case round =>
          clear HO HX1 HX2 HX4 HX3 HBL q1 q2
          obtain ⟨k2, hk2, rfl, ho, hx1, hx2, hx4, hx3, hbl⟩ := hrel
          by_cases hlt2 : k2 < qn
          · have j1 : (k2 : Int) < (qn : Int) := by omega
            have q1 := hx1.c0
            have q2 := hx1.c1
            have q3 := hx3.c0
            have q4 := hx3.c1
            have q5 := hx2.c0
            have q6 := hx2.c1
            have HO : Hid (Own wr.drew (w.heap.size + 1 + 1 + 1 + 1) (pk N (k + k2) m)) := ho
            have HX1 : Hid (Box wr.drew (w.heap.size) (.slice a m0 c) (.int .i64 k)) := hx1
            have HX2 : Hid (Box wr.drew (w.heap.size + 1) (.slice a' m0' c') (.int .i64 qn)) := hx2
            have HX4 : Hid (Box wr.drew (w.heap.size + 1 + 1) (.slice none 0 0) (.int .i64 0)) := hx4
            have HX3 : Hid (Box wr.drew (w.heap.size + 1 + 1 + 1) (.slice (some ⟨w.heap.size + 1 + 1 + 1 + 1, 0, none⟩) m m) (.int .i64 ((k : Int) + (qn : Int)))) := hx3
            have HBL : Hid (Below w.heap.size w wr.drew) := hbl.drew
            clear ho hx1 hx2 hx3 hx4 hbl
            go_wp2
            go_region_held3 (fun w' => w'.cell? ⟨w.heap.size + 1 + 1 + 1, 0, none⟩ = some (.slice (some ⟨w.heap.size + 1 + 1 + 1 + 1, 0, none⟩) m m) ∧ w'.cell? ⟨w.heap.size + 1 + 1 + 1, 1, none⟩ = some (.int .i64 ((k : Int) + (qn : Int))) ∧ w'.cell? ⟨w.heap.size, 1, none⟩ = some (.int .i64 k) ∧ w'.cell? ⟨w.heap.size + 1, 0, none⟩ = some (.slice a' m0' c') ∧ w'.cell? ⟨w.heap.size + 1, 1, none⟩ = some (.int .i64 qn)) (first | (exact ⟨HX3.out.c0, HX3.out.c1, HX1.out.c1, HX2.out.c0, HX2.out.c1⟩) | (exact ⟨(HX3.out.below hb1).c0, (HX3.out.below hb1).c1, (HX1.out.below hb1).c1, (HX2.out.below hb1).c0, (HX2.out.below hb1).c1⟩) | (exact ⟨((HX3.out.below hb1).grown hg2 (by omega)).c0, ((HX3.out.below hb1).grown hg2 (by omega)).c1, ((HX1.out.below hb1).grown hg2 (by omega)).c1, ((HX2.out.below hb1).grown hg2 (by omega)).c0, ((HX2.out.below hb1).grown hg2 (by omega)).c1⟩))
              (first | (go_at_call 35; refine (at_int _ Q _ _ k2 _ ?_ ?_ ?_ ?_).mono ?_; (rfl); (exact HIQ.out _ HBL.out); (omega); (omega); rintro e w1 ⟨rfl, hb1⟩)
                     | (go_at_call 51; refine (set_int (w.heap.size + 1 + 1 + 1 + 1) m _ N HNB.out _ _ _ (k + k2) _ ?_ ?_ ?_ ?_ ?_).mono ?_; (rw [IntKind.wrap_i64]; omega); (exact HN2.out k2); (exact HO.out.below hb1); (have := HM.out; omega); (have := HM.out; omega); rintro e w2 ⟨rfl, ho2, hg2⟩))
            go_wp2
            go_roundw
            case rel =>
              refine ⟨k2 + 1, by omega, by go_num, ho2, (HX1.out.below hb1).grown hg2 (by omega), (HX2.out.below hb1).grown hg2 (by omega), (HX4.out.below hb1).grown hg2 (by omega), (HX3.out.below hb1).grown hg2 (by omega), ?_⟩
              exact below_grown (HBL.out.trans (hb1.mono HBL.out.size)) (by have := HBL.out.size; have := hb1.size; omega) hg2 (by omega)
            case measure => simp [intOf]; omega
          · obtain rfl : k2 = qn := by omega
            have q3 := hx3.c0
            have q4 := hx3.c1
            have r1 := hx4.c0
            have r2 := hx4.c1
            have r3 := hx4.f 0
            have r4 := hx4.f 1
            have HO : Hid (Own wr (w.heap.size + 1 + 1 + 1 + 1) (pk N (k + k2) m)) := ho
            have HX4 : Hid (Box wr (w.heap.size + 1 + 1) (.slice none 0 0) (.int .i64 0)) := hx4
            have HBL : Hid (Below w.heap.size w wr) := hbl
            clear ho hx1 hx2 hx3 hx4 hbl
            go_wp2
            have hst := HX4.out.store (.slice (some ⟨w.heap.size + 1 + 1 + 1 + 1, 0, none⟩) m m) (.int .i64 ((k : Int) + (k2 : Int)))
            have hs0 := hst.c0
            have hs1 := hst.c1
            refine bodyPost_ret (v := .agg #[.slice (some ⟨w.heap.size + 1 + 1 + 1 + 1, 0, none⟩) m m, .int .i64 ((k : Int) + (k2 : Int))]) (by simp [results, Try.results38, go_sem, hs0, hs1]) rfl (made_mk (by omega) ((HO.out.other (by omega)).other (by omega)) HM.out (by omega) HNB.out ?_)
            exact (HBL.out.setCell (p := ⟨w.heap.size + 1 + 1, 0, none⟩) (by simp; omega) _).setCell (p := ⟨w.heap.size + 1 + 1, 1, none⟩) (by simp; omega) _
end Go.Proofs.Qxb6003407a
