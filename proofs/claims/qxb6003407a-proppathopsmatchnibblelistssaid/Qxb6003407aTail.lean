/-
  'path.tail'.
-/
import Derived.Test.Qxb6003407aAt
import Derived.Test.Qxb6003407aNibs
import Derived.Test.Qxb6003407aPre
import Derived.Deep.RegionHeld3
import Derived.RegionTactic
import Derived.Deep.DeepMust
namespace Go.Proofs.Qxb6003407a
open Go.RowKit

/-- 'path.tail'. -/
theorem tail_any (v : Value) (L : List Int) (n i : Nat) (w : World) (h : IsB w v L) (hi : i ≤ n) (hn : (n + 1) / 2 ≤ L.length) (hL : L.length ≤ 1048576) (hn2 : n ≤ 65536) :
    Calls Try.prog 37 #[.agg #[v, .int .i64 n], .int .i64 i] w fun e w' => Made (fun j => nib L (i + j)) (n - i) w e w' := by
  have HI : Hid (IsB w v L) := h
  obtain ⟨a, m0, c, hv⟩ := h.slice
  rw [hv]
  rw [hv] at HI
  clear h hv
  obtain ⟨m, hm⟩ : ∃ m, m = (n - i + 1) / 2 := ⟨_, rfl⟩
  have hmk := fun W => mk W m (((n : Int) - (i : Int) + 1) / 2) (by omega) (by omega)
  obtain ⟨N, hN⟩ : ∃ N : Nat → Int, N = fun j => nib L (i + j) := ⟨_, rfl⟩
  have HN : Hid (N = fun j => nib L (i + j)) := hN
  have HM : Hid (m = (n - i + 1) / 2) := hm
  have HNB : Hid (∀ j, 0 ≤ N j ∧ N j ≤ 15) := fun j => by rw [hN]; exact nib_bd HI.out.byt (i + j)
  have HIW : Hid (∀ W, Below w.heap.size w W → IsB W (.slice a m0 c) L) := fun W hW => HI.out.below hW
  rw [← hN]
  clear hN hm
  go_enter Try.func37, Try.ntmps37
  go_wp2
  go_region
  · -- the row at w.heap.size + 1 + 1, the variable at w.heap.size + 1 + 1 + 1
    go_wp2
    go_loopw [21] (fun x wr => ∃ k : Nat, k ≤ n - i ∧ x = .int .i64 k ∧ Own wr (w.heap.size + 1 + 1) (pk N k m) ∧ Box wr (w.heap.size) (.slice a m0 c) (.int .i64 n) ∧ Box wr (w.heap.size + 1) (.slice none 0 0) (.int .i64 0) ∧ Box wr (w.heap.size + 1 + 1 + 1) (.slice (some ⟨w.heap.size + 1 + 1, 0, none⟩) m m) (.int .i64 ((n : Int) - (i : Int))) ∧ Below w.heap.size w wr) (fun x _ => n - i - (intOf x).toNat)
    case atStart =>
      refine ⟨0, Nat.zero_le _, rfl, ?_, (((box_new w _ _).alloc _).alloc _).alloc _, ((box_new_at _ _ _ _ (by simp)).alloc _).alloc _, ?_, ((((Below.refl _ _).alloc (Nat.le_refl _) _).alloc (by simp) _).alloc (by simp; omega) _).alloc (by simp; omega) _ |>.drew⟩
      · rw [pk_zero]
        exact (own_zer_at _ _ _ (by simp)).alloc _
      · exact box_new_at _ _ _ _ (by simp)
    case round =>
      obtain ⟨k, hk, rfl, ho, hx1, hx2, hx3, hbl⟩ := hrel
      by_cases hlt : k < n - i
      · have j1 : (k : Int) < (n : Int) - (i : Int) := by omega
        have q1 := hx1.c0
        have q2 := hx1.c1
        have q3 := hx3.c0
        have q4 := hx3.c1
        have HO : Hid (Own wr.drew (w.heap.size + 1 + 1) (pk N k m)) := ho
        have HX1 : Hid (Box wr.drew (w.heap.size) (.slice a m0 c) (.int .i64 n)) := hx1
        have HX2 : Hid (Box wr.drew (w.heap.size + 1) (.slice none 0 0) (.int .i64 0)) := hx2
        have HX3 : Hid (Box wr.drew (w.heap.size + 1 + 1 + 1) (.slice (some ⟨w.heap.size + 1 + 1, 0, none⟩) m m) (.int .i64 ((n : Int) - (i : Int)))) := hx3
        have HBL : Hid (Below w.heap.size w wr.drew) := hbl.drew
        clear ho hx1 hx2 hx3 hbl
        go_wp2
        go_region_held3 (fun w' => w'.cell? ⟨w.heap.size + 1 + 1 + 1, 0, none⟩ = some (.slice (some ⟨w.heap.size + 1 + 1, 0, none⟩) m m) ∧ w'.cell? ⟨w.heap.size + 1 + 1 + 1, 1, none⟩ = some (.int .i64 ((n : Int) - (i : Int))) ∧ w'.cell? ⟨w.heap.size, 0, none⟩ = some (.slice a m0 c) ∧ w'.cell? ⟨w.heap.size, 1, none⟩ = some (.int .i64 n)) (first | (exact ⟨HX3.out.c0, HX3.out.c1, HX1.out.c0, HX1.out.c1⟩) | (exact ⟨(HX3.out.below hb1).c0, (HX3.out.below hb1).c1, (HX1.out.below hb1).c0, (HX1.out.below hb1).c1⟩) | (exact ⟨((HX3.out.below hb1).grown hg2 (by omega)).c0, ((HX3.out.below hb1).grown hg2 (by omega)).c1, ((HX1.out.below hb1).grown hg2 (by omega)).c0, ((HX1.out.below hb1).grown hg2 (by omega)).c1⟩))
          (first | (go_at_call 35; refine (at_int _ L _ _ (i + k) _ ?_ ?_ ?_ ?_).mono ?_; (rw [IntKind.wrap_i64]; omega); (exact HIW.out _ HBL.out); (omega); (omega); rintro e w1 ⟨rfl, hb1⟩)
                 | (go_at_call 51; refine (set_int (w.heap.size + 1 + 1) m _ N HNB.out _ _ _ k _ ?_ ?_ ?_ ?_ ?_).mono ?_; (rfl); (rw [HN.out]); (exact HO.out.below hb1); (have := HM.out; omega); (have := HM.out; omega); rintro e w2 ⟨rfl, ho2, hg2⟩))
        go_wp2
        go_roundw
        case rel =>
          refine ⟨k + 1, by omega, by go_num, ho2, (HX1.out.below hb1).grown hg2 (by omega), (HX2.out.below hb1).grown hg2 (by omega), (HX3.out.below hb1).grown hg2 (by omega), ?_⟩
          exact below_grown (HBL.out.trans (hb1.mono HBL.out.size)) (by have := HBL.out.size; have := hb1.size; omega) hg2 (by omega)
        case measure => simp [intOf]; omega
      · obtain rfl : k = n - i := by omega
        have j1 : ¬ ((n - i : Nat) : Int) < (n : Int) - (i : Int) := by omega
        have q3 := hx3.c0
        have q4 := hx3.c1
        have r1 := hx2.c0
        have r2 := hx2.c1
        have r3 := hx2.f 0
        have r4 := hx2.f 1
        have HO : Hid (Own wr (w.heap.size + 1 + 1) (pk N (n - i) m)) := ho
        have HX2 : Hid (Box wr (w.heap.size + 1) (.slice none 0 0) (.int .i64 0)) := hx2
        have HBL : Hid (Below w.heap.size w wr) := hbl
        clear ho hx1 hx2 hx3 hbl
        go_wp2
        have hst := HX2.out.store (.slice (some ⟨w.heap.size + 1 + 1, 0, none⟩) m m) (.int .i64 ((n : Int) - (i : Int)))
        have hs0 := hst.c0
        have hs1 := hst.c1
        refine bodyPost_ret (v := .agg #[.slice (some ⟨w.heap.size + 1 + 1, 0, none⟩) m m, .int .i64 ((n : Int) - (i : Int))]) (by simp [results, Try.results37, go_sem, hs0, hs1]) rfl (made_mk (by omega) ((HO.out.other (by omega)).other (by omega)) HM.out (by omega) HNB.out ?_)
        exact (HBL.out.setCell (p := ⟨w.heap.size + 1, 0, none⟩) (by simp) _).setCell (p := ⟨w.heap.size + 1, 1, none⟩) (by simp) _
  · -- the row at w.heap.size + 1 + 1 + 1, the variable at w.heap.size + 1 + 1
    go_wp2
    go_loopw [21] (fun x wr => ∃ k : Nat, k ≤ n - i ∧ x = .int .i64 k ∧ Own wr (w.heap.size + 1 + 1 + 1) (pk N k m) ∧ Box wr (w.heap.size) (.slice a m0 c) (.int .i64 n) ∧ Box wr (w.heap.size + 1) (.slice none 0 0) (.int .i64 0) ∧ Box wr (w.heap.size + 1 + 1) (.slice (some ⟨w.heap.size + 1 + 1 + 1, 0, none⟩) m m) (.int .i64 ((n : Int) - (i : Int))) ∧ Below w.heap.size w wr) (fun x _ => n - i - (intOf x).toNat)
    case atStart =>
      refine ⟨0, Nat.zero_le _, rfl, ?_, (((box_new w _ _).alloc _).alloc _).alloc _, ((box_new_at _ _ _ _ (by simp)).alloc _).alloc _, ?_, ((((Below.refl _ _).alloc (Nat.le_refl _) _).alloc (by simp) _).alloc (by simp; omega) _).alloc (by simp; omega) _ |>.drew⟩
      · rw [pk_zero]
        exact own_zer_at _ _ _ (by simp)
      · exact (box_new_at _ _ _ _ (by simp)).alloc _
    case round =>
      obtain ⟨k, hk, rfl, ho, hx1, hx2, hx3, hbl⟩ := hrel
      by_cases hlt : k < n - i
      · have j1 : (k : Int) < (n : Int) - (i : Int) := by omega
        have q1 := hx1.c0
        have q2 := hx1.c1
        have q3 := hx3.c0
        have q4 := hx3.c1
        have HO : Hid (Own wr.drew (w.heap.size + 1 + 1 + 1) (pk N k m)) := ho
        have HX1 : Hid (Box wr.drew (w.heap.size) (.slice a m0 c) (.int .i64 n)) := hx1
        have HX2 : Hid (Box wr.drew (w.heap.size + 1) (.slice none 0 0) (.int .i64 0)) := hx2
        have HX3 : Hid (Box wr.drew (w.heap.size + 1 + 1) (.slice (some ⟨w.heap.size + 1 + 1 + 1, 0, none⟩) m m) (.int .i64 ((n : Int) - (i : Int)))) := hx3
        have HBL : Hid (Below w.heap.size w wr.drew) := hbl.drew
        clear ho hx1 hx2 hx3 hbl
        go_wp2
        go_region_held3 (fun w' => w'.cell? ⟨w.heap.size + 1 + 1, 0, none⟩ = some (.slice (some ⟨w.heap.size + 1 + 1 + 1, 0, none⟩) m m) ∧ w'.cell? ⟨w.heap.size + 1 + 1, 1, none⟩ = some (.int .i64 ((n : Int) - (i : Int))) ∧ w'.cell? ⟨w.heap.size, 0, none⟩ = some (.slice a m0 c) ∧ w'.cell? ⟨w.heap.size, 1, none⟩ = some (.int .i64 n)) (first | (exact ⟨HX3.out.c0, HX3.out.c1, HX1.out.c0, HX1.out.c1⟩) | (exact ⟨(HX3.out.below hb1).c0, (HX3.out.below hb1).c1, (HX1.out.below hb1).c0, (HX1.out.below hb1).c1⟩) | (exact ⟨((HX3.out.below hb1).grown hg2 (by omega)).c0, ((HX3.out.below hb1).grown hg2 (by omega)).c1, ((HX1.out.below hb1).grown hg2 (by omega)).c0, ((HX1.out.below hb1).grown hg2 (by omega)).c1⟩))
          (first | (go_at_call 35; refine (at_int _ L _ _ (i + k) _ ?_ ?_ ?_ ?_).mono ?_; (rw [IntKind.wrap_i64]; omega); (exact HIW.out _ HBL.out); (omega); (omega); rintro e w1 ⟨rfl, hb1⟩)
                 | (go_at_call 51; refine (set_int (w.heap.size + 1 + 1 + 1) m _ N HNB.out _ _ _ k _ ?_ ?_ ?_ ?_ ?_).mono ?_; (rfl); (rw [HN.out]); (exact HO.out.below hb1); (have := HM.out; omega); (have := HM.out; omega); rintro e w2 ⟨rfl, ho2, hg2⟩))
        go_wp2
        go_roundw
        case rel =>
          refine ⟨k + 1, by omega, by go_num, ho2, (HX1.out.below hb1).grown hg2 (by omega), (HX2.out.below hb1).grown hg2 (by omega), (HX3.out.below hb1).grown hg2 (by omega), ?_⟩
          exact below_grown (HBL.out.trans (hb1.mono HBL.out.size)) (by have := HBL.out.size; have := hb1.size; omega) hg2 (by omega)
        case measure => simp [intOf]; omega
      · obtain rfl : k = n - i := by omega
        have j1 : ¬ ((n - i : Nat) : Int) < (n : Int) - (i : Int) := by omega
        have q3 := hx3.c0
        have q4 := hx3.c1
        have r1 := hx2.c0
        have r2 := hx2.c1
        have r3 := hx2.f 0
        have r4 := hx2.f 1
        have HO : Hid (Own wr (w.heap.size + 1 + 1 + 1) (pk N (n - i) m)) := ho
        have HX2 : Hid (Box wr (w.heap.size + 1) (.slice none 0 0) (.int .i64 0)) := hx2
        have HBL : Hid (Below w.heap.size w wr) := hbl
        clear ho hx1 hx2 hx3 hbl
        go_wp2
        have hst := HX2.out.store (.slice (some ⟨w.heap.size + 1 + 1 + 1, 0, none⟩) m m) (.int .i64 ((n : Int) - (i : Int)))
        have hs0 := hst.c0
        have hs1 := hst.c1
        refine bodyPost_ret (v := .agg #[.slice (some ⟨w.heap.size + 1 + 1 + 1, 0, none⟩) m m, .int .i64 ((n : Int) - (i : Int))]) (by simp [results, Try.results37, go_sem, hs0, hs1]) rfl (made_mk (by omega) ((HO.out.other (by omega)).other (by omega)) HM.out (by omega) HNB.out ?_)
        exact (HBL.out.setCell (p := ⟨w.heap.size + 1, 0, none⟩) (by simp) _).setCell (p := ⟨w.heap.size + 1, 1, none⟩) (by simp) _
end Go.Proofs.Qxb6003407a
