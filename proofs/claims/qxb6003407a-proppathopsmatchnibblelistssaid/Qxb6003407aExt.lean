/-
  'path.extend'; 'ZZPathTail', 'ZZJoin', 'ZZPathExtend'.
-/
import Derived.Test.Qxb6003407aTail
import Derived.Test.Qxb6003407aJoin
namespace Go.Proofs.Qxb6003407a
open Go.RowKit

/-- What 'ZZPathTail', 'ZZJoin', 'ZZPathExtend' hand back. -/
def Made2 (N : Nat → Int) (n : Nat) (w : World) (e : Ending) (w' : World) : Prop :=
  ∃ v' M, e = .returned (.tuple #[v', .int .i64 (n : Int)]) ∧ IsB w' v' M ∧ (n + 1) / 2 ≤ M.length ∧ M.length ≤ 1048576 ∧ tab (nib M) n = tab N n ∧ Below w.heap.size w w'

/-- 'ZZPathTail'. -/
theorem ztail_any (v : Value) (L : List Int) (n i : Nat) (w : World) (h : IsB w v L) (hi : i ≤ n) (hn : (n + 1) / 2 ≤ L.length) (hL : L.length ≤ 1048576) (hn2 : n ≤ 65536) :
    Calls Try.prog 12 #[v, .int .i64 n, .int .i64 i] w fun e w' => Made2 (fun j => nib L (i + j)) (n - i) w e w' := by
  have H : Hid (∀ W, IsB W v L → Calls Try.prog 37 #[.agg #[v, .int .i64 n], .int .i64 i] W fun e w' => Made (fun j => nib L (i + j)) (n - i) W e w') := fun W hW => tail_any v L n i W hW hi hn hL hn2
  have HI : Hid (IsB w v L) := h
  obtain ⟨a, m0, c, hv⟩ := h.slice
  clear h
  subst hv
  go_enter Try.func12, Try.ntmps12
  go_wp2_with fail
  refine (H.out _ HI.out).mono ?_
  rintro e w1 ⟨v', M, x, rfl, rfl, hI, hl, hL2, ht, hb⟩
  have HI1 : Hid (IsB w1 v' M) := hI
  have HB1 : Hid (Below w.heap.size w w1) := hb
  have HT : Hid (tab (nib M) (n - i) = tab (fun j => nib L (i + j)) (n - i)) := ht
  obtain ⟨a', m', c', hv'⟩ := hI.slice
  clear hI hb ht
  rw [hv']
  rw [hv'] at HI1
  clear hv'
  go_wp2
  go_quiet (fail)
  go_wp2
  go_ret2
  refine ⟨_, M, rfl, HI1.out.below ?_, hl, hL2, HT.out, ?_⟩
  · exact below_drewN ((Below.refl _ _).alloc (Nat.le_refl _) _) _
  · exact HB1.out.trans (below_drewN ((Below.refl _ _).alloc HB1.out.size _) _)

/-- 'ZZJoin'. -/
theorem zjoin_any (vp vq : Value) (P Q : List Int) (pn qn : Nat) (w : World) (hp : IsB w vp P) (hq : IsB w vq Q) (hpn : (pn + 1) / 2 ≤ P.length) (hqn : (qn + 1) / 2 ≤ Q.length) (hP : P.length ≤ 1048576) (hQ : Q.length ≤ 1048576) (hp2 : pn ≤ 65536) (hq2 : qn ≤ 65536) :
    Calls Try.prog 13 #[vp, .int .i64 pn, vq, .int .i64 qn] w fun e w' => Made2 (catN P Q pn) (pn + qn) w e w' := by
  have H : Hid (∀ W, IsB W vp P → IsB W vq Q → Calls Try.prog 38 #[.agg #[vp, .int .i64 pn], .agg #[vq, .int .i64 qn]] W fun e w' => Made (catN P Q pn) (pn + qn) W e w') := fun W h1 h2 => join_any vp vq P Q pn qn W h1 h2 hpn hqn hP hQ hp2 hq2
  have HP : Hid (IsB w vp P) := hp
  have HQ : Hid (IsB w vq Q) := hq
  obtain ⟨a, m0, c, hv⟩ := hp.slice
  obtain ⟨b, m1, d, hv2⟩ := hq.slice
  clear hp hq
  subst hv
  subst hv2
  go_enter Try.func13, Try.ntmps13
  go_wp2_with fail
  refine (H.out _ HP.out HQ.out).mono ?_
  rintro e w1 ⟨v', M, x, rfl, rfl, hI, hl, hL2, ht, hb⟩
  have HI1 : Hid (IsB w1 v' M) := hI
  have HB1 : Hid (Below w.heap.size w w1) := hb
  have HT : Hid (tab (nib M) (pn + qn) = tab (catN P Q pn) (pn + qn)) := ht
  obtain ⟨a', m', c', hv'⟩ := hI.slice
  clear hI hb ht
  rw [hv']
  rw [hv'] at HI1
  clear hv'
  go_wp2
  go_quiet (fail)
  go_wp2
  go_ret2
  refine ⟨_, M, rfl, HI1.out.below ?_, hl, hL2, HT.out, ?_⟩
  · exact below_drewN ((Below.refl _ _).alloc (Nat.le_refl _) _) _
  · exact HB1.out.trans (below_drewN ((Below.refl _ _).alloc HB1.out.size _) _)

theorem isB_one (w : World) (z : Int) (h0 : 0 ≤ z) (h1 : z ≤ 255) (b : Nat) (hb : w.heap.size = b) : IsB (w.alloc (.cells #[.int .u8 z] 5)) (.slice (some ⟨b, 0, none⟩) 1 1) [z] := by
  subst hb
  have ho : Own (w.alloc (.cells #[.int .u8 z] 5)) w.heap.size [z] := by
    unfold Own
    show (w.heap.push _)[w.heap.size]? = _
    rw [Array.getElem?_push, if_pos rfl]
    rfl
  exact ho.isB (by unfold maxLen; simp) (fun y hy => by rw [List.mem_singleton] at hy; subst hy; exact ⟨h0, h1⟩)

theorem isB_apart {w : World} {v : Value} {M : List Int} {b : Nat} {a : Option Addr} {n c : Nat} {z : Int} (h : IsB w v M) (hx : Box w b (.slice a n c) (.int .i64 z)) (w' : World) (hw : ∀ k, k ≠ b → w'.heap[k]? = w.heap[k]?) : IsB w' v M := by
  obtain ⟨a', cap, hv, h1, h2, h3, h4⟩ := h
  refine ⟨a', cap, hv, h1, h2, h3, fun hl => ?_⟩
  obtain ⟨b', off, ha, hc⟩ := h4 hl
  have hne : b' ≠ b := by
    intro e
    subst e
    have h0 := hc 0 hl
    unfold Box at hx
    simp only [World.cell?, hx] at h0
    match off, h0 with
    | 0, h0 => simp at h0
    | 1, h0 => simp at h0
    | off + 2, h0 => simp at h0
  refine ⟨b', off, ha, fun i hi => ?_⟩
  rw [← hc i hi]
  exact World.cell?_of_block (hw b' hne)

/-- 'path.extend'. -/
theorem extend_any (vp : Value) (P : List Int) (pn : Nat) (t : Int) (w : World) (hp : IsB w vp P) (hpn : (pn + 1) / 2 ≤ P.length) (hP : P.length ≤ 1048576) (hp2 : pn ≤ 65536) (t0 : 0 ≤ t) (t1 : t ≤ 15) :
    Calls Try.prog 39 #[.agg #[vp, .int .i64 pn], .int .u8 t] w fun e w' => Made (catN P [t * 16] pn) (pn + 1) w e w' := by
  have H : Hid (∀ W vq, IsB W vp P → IsB W vq [t * 16] → Calls Try.prog 38 #[.agg #[vp, .int .i64 pn], .agg #[vq, .int .i64 1]] W fun e w' => Made (catN P [t * 16] pn) (pn + 1) W e w') := fun W vq h1 h2 => join_any vp vq P [t * 16] pn 1 W h1 h2 hpn (by simp) hP (by simp) hp2 (by omega)
  have HP : Hid (IsB w vp P) := hp
  obtain ⟨a, m0, c, hv⟩ := hp.slice
  clear hp
  subst hv
  go_enter Try.func39, Try.ntmps39
  go_wp2_with fail
  refine (H.out _ _ (HP.out.below ?_) (isB_one _ _ (by omega) (by omega) _ (by simp))).mono ?_
  · exact (((Below.refl _ _).alloc (Nat.le_refl _) _).alloc (by simp) _).alloc (by simp; omega) _
  rintro e w1 ⟨v', M, x, rfl, rfl, hI, hl, hL2, ht, hb⟩
  have hx1 : Box w1 (w.heap.size + 1) (.slice none 0 0) (.int .i64 0) := Box.below ((box_new_at _ _ _ _ (by simp)).alloc _) hb
  have r1 := hx1.c0
  have r2 := hx1.c1
  have r3 := hx1.f 0
  have r4 := hx1.f 1
  have HX1 : Hid (Box w1 (w.heap.size + 1) (.slice none 0 0) (.int .i64 0)) := hx1
  have HI1 : Hid (IsB w1 v' M) := hI
  have HB1 : Hid (Below w.heap.size w w1) := ((((Below.refl _ _).alloc (Nat.le_refl _) _).alloc (by simp) _).alloc (by simp; omega) _).trans (hb.mono (by simp; omega))
  have HT : Hid (tab (nib M) (pn + 1) = tab (catN P [t * 16] pn) (pn + 1)) := ht
  obtain ⟨a', m', c', hv'⟩ := hI.slice
  clear hI hb ht hx1
  rw [hv']
  rw [hv'] at HI1
  clear hv'
  go_wp2
  have hst := HX1.out.store (.slice a' m' c') (.int .i64 ((pn : Int) + 1))
  have hs0 := hst.c0
  have hs1 := hst.c1
  refine bodyPost_ret (v := .agg #[.slice a' m' c', .int .i64 ((pn : Int) + 1)]) (by simp [results, Try.results39, go_sem, hs0, hs1]) rfl ⟨_, M, _, rfl, by omega, ?_, hl, hL2, HT.out, ?_⟩
  · refine isB_apart HI1.out HX1.out _ fun k hk => ?_
    rw [Below.heap_setCell _ _ _ _ hk, Below.heap_setCell _ _ _ _ hk]
  · exact (HB1.out.setCell (p := ⟨w.heap.size + 1, 0, none⟩) (by simp) _).setCell (p := ⟨w.heap.size + 1, 1, none⟩) (by simp) _

/-- 'ZZPathExtend'. -/
theorem zextend_any (v : Value) (P : List Int) (pn : Nat) (t : Int) (w : World) (h : IsB w v P) (hpn : (pn + 1) / 2 ≤ P.length) (hP : P.length ≤ 1048576) (hp2 : pn ≤ 65536) (t0 : 0 ≤ t) (t1 : t ≤ 15) :
    Calls Try.prog 15 #[v, .int .i64 pn, .int .u8 t] w fun e w' => Made2 (catN P [t * 16] pn) (pn + 1) w e w' := by
  have H : Hid (∀ W, IsB W v P → Calls Try.prog 39 #[.agg #[v, .int .i64 pn], .int .u8 t] W fun e w' => Made (catN P [t * 16] pn) (pn + 1) W e w') := fun W hW => extend_any v P pn t W hW hpn hP hp2 t0 t1
  have HI : Hid (IsB w v P) := h
  obtain ⟨a, m0, c, hv⟩ := h.slice
  clear h
  subst hv
  go_enter Try.func15, Try.ntmps15
  go_wp2_with fail
  refine (H.out _ HI.out).mono ?_
  rintro e w1 ⟨v', M, x, rfl, rfl, hI, hl, hL2, ht, hb⟩
  have HI1 : Hid (IsB w1 v' M) := hI
  have HB1 : Hid (Below w.heap.size w w1) := hb
  have HT : Hid (tab (nib M) (pn + 1) = tab (catN P [t * 16] pn) (pn + 1)) := ht
  obtain ⟨a', m', c', hv'⟩ := hI.slice
  clear hI hb ht
  rw [hv']
  rw [hv'] at HI1
  clear hv'
  go_wp2
  go_quiet (fail)
  go_wp2
  go_ret2
  refine ⟨_, M, rfl, HI1.out.below ?_, hl, hL2, HT.out, ?_⟩
  · exact below_drewN ((Below.refl _ _).alloc (Nat.le_refl _) _) _
  · exact HB1.out.trans (below_drewN ((Below.refl _ _).alloc HB1.out.size _) _)
end Go.Proofs.Qxb6003407a
