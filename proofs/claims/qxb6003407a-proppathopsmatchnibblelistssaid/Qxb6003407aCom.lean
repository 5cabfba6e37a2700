/-
  'commonPrefix'.
-/
import Derived.Test.Qxb6003407aAt
import Derived.Test.Qxb6003407aKey
import Derived.Deep.RegionHeld3
namespace Go.Proofs.Qxb6003407a
open Go.RowKit

theorem nib_same {P Q : List Int} {k j : Nat} (h : ∀ i, i < k → P[i]?.getD 0 = Q[i]?.getD 0) (hj : j < 2 * k) : nib P j = nib Q j := by
  unfold nib
  rw [h (j / 2) (by omega)]

theorem byte_of_nibs {P : List Int} (k : Nat) : P[k]?.getD 0 = 16 * nib P (2 * k) + nib P (2 * k + 1) := by
  rw [nib_even (by omega), nib_odd (by omega), show 2 * k / 2 = k by omega, show (2 * k + 1) / 2 = k by omega]
  omega

theorem com_at {f : Nat → Int} {n r : Nat} (h : r < n) : (tab f n)[r]?.getD 0 = f r := tab_at f h

theorem com_even {P Q : List Int} {pn qn n k : Nat} (hn : n = min pn qn) (hb : ∀ i, i < k → P[i]?.getD 0 = Q[i]?.getD 0) (hk : k ≤ n / 2) (h : 2 * k < n → nib P (2 * k) ≠ nib Q (2 * k)) : IsLcp (tab (nib P) pn) (tab (nib Q) qn) (2 * k) := by
  unfold IsLcp
  rw [tab_length, tab_length]
  refine ⟨by omega, by omega, fun j hj => ?_, fun h1 h2 => ?_⟩
  · rw [tab_at _ (by omega), tab_at _ (by omega)]
    exact nib_same hb hj
  · rw [tab_at _ h1, tab_at _ h2]
    exact h (by omega)

theorem com_odd {P Q : List Int} {pn qn n k : Nat} (hn : n = min pn qn) (hb : ∀ i, i < k → P[i]?.getD 0 = Q[i]?.getD 0) (hlt : 2 * k < n) (he : nib P (2 * k) = nib Q (2 * k)) (hd : k < n / 2 → P[k]?.getD 0 ≠ Q[k]?.getD 0) : IsLcp (tab (nib P) pn) (tab (nib Q) qn) (2 * k + 1) := by
  unfold IsLcp
  rw [tab_length, tab_length]
  refine ⟨by omega, by omega, fun j hj => ?_, fun h1 h2 => ?_⟩
  · rw [tab_at _ (by omega), tab_at _ (by omega)]
    by_cases hjk : j < 2 * k
    · exact nib_same hb hjk
    · obtain rfl : j = 2 * k := by omega
      exact he
  · rw [tab_at _ h1, tab_at _ h2]
    intro e
    apply hd (by omega)
    rw [byte_of_nibs, byte_of_nibs, he, e]

theorem below3 {w W a b : World} (h : Below w.heap.size w W) (h1 : Below W.heap.size W a) (h2 : Below a.heap.size a b) : Below w.heap.size w b := (h.trans (h1.mono h.size)).trans (h2.mono (Nat.le_trans h.size h1.size))

set_option maxHeartbeats 1000000 in
/-- 'commonPrefix'. -/
theorem common_any (vp vq : Value) (P Q : List Int) (pn qn : Nat) (w : World) (hp : IsB w vp P) (hq : IsB w vq Q) (hpn : (pn + 1) / 2 ≤ P.length) (hqn : (qn + 1) / 2 ≤ Q.length) (hP : P.length ≤ 1048576) (hQ : Q.length ≤ 1048576) (hp2 : pn ≤ 65536) (hq2 : qn ≤ 65536) :
    Calls Try.prog 40 #[.agg #[vp, .int .i64 pn], .agg #[vq, .int .i64 qn]] w fun e w' => ∃ r : Nat, e = .returned (.int .i64 r) ∧ IsLcp (tab (nib P) pn) (tab (nib Q) qn) r ∧ Below w.heap.size w w' := by
  obtain ⟨a, m0, c, hv⟩ := hp.slice
  obtain ⟨a', m0', c', hv'⟩ := hq.slice
  rw [hv, hv']
  rw [hv] at hp
  rw [hv'] at hq
  clear hv hv'
  have HIP : Hid (∀ W, Below w.heap.size w W → IsB W (.slice a m0 c) P) := fun W hW => hp.below hW
  have HIQ : Hid (∀ W, Below w.heap.size w W → IsB W (.slice a' m0' c') Q) := fun W hW => hq.below hW
  clear hp hq
  rcases Nat.lt_or_ge qn pn with hmin | hmin
  · have HMIN : Hid (qn = min pn qn) := by show _ = _; omega
    go_enter Try.func40, Try.ntmps40
    go_wp2
    go_loopw [6] (fun x wr => ∃ k : Nat, k ≤ qn / 2 ∧ x = .int .i64 k ∧ Box wr (w.heap.size) (.slice a m0 c) (.int .i64 pn) ∧ Box wr (w.heap.size + 1) (.slice a' m0' c') (.int .i64 qn) ∧ Below w.heap.size w wr ∧ Hid (∀ j, j < k → P[j]?.getD 0 = Q[j]?.getD 0)) (fun x _ => qn / 2 - (intOf x).toNat)
    case atStart => exact ⟨0, Nat.zero_le _, rfl, (box_new w _ _).alloc _, box_new_at _ _ _ _ (by simp), ((Below.refl _ _).alloc (Nat.le_refl _) _).alloc (by simp) _, fun j hj => absurd hj (by omega)⟩
    case round =>
      obtain ⟨k, hk, rfl, hx1, hx2, hbl, HK⟩ := hrel
      have HIPr := HIP.out wr hbl
      have HIQr := HIQ.out wr hbl
      have q1 := hx1.c0
      have q2 := hx1.c1
      have q3 := hx2.c0
      have q4 := hx2.c1
      have HX1 : Hid (Box wr (w.heap.size) (.slice a m0 c) (.int .i64 pn)) := hx1
      have HX2 : Hid (Box wr (w.heap.size + 1) (.slice a' m0' c') (.int .i64 qn)) := hx2
      have HBL : Hid (Below w.heap.size w wr) := hbl
      clear hx1 hx2 hbl
      by_cases hlt : k < qn / 2
      · have i0 : decide ((k : Int) < (qn : Int) / 2) = true := by simp; omega
        have kP : k < P.length := by omega
        have kQ : k < Q.length := by omega
        obtain ⟨aP, cP, eP, _, mP, _, rP⟩ := HIPr
        obtain ⟨aQ, cQ, eQ, _, mQ, _, rQ⟩ := HIQr
        obtain ⟨b1, o1, rfl, hc1⟩ := rP (by omega)
        obtain ⟨b2, o2, rfl, hc2⟩ := rQ (by omega)
        cases eP
        cases eQ
        obtain ⟨y, hy⟩ : ∃ y, y = P[k]?.getD 0 := ⟨_, rfl⟩
        obtain ⟨z, hz⟩ : ∃ z, z = Q[k]?.getD 0 := ⟨_, rfl⟩
        have g1 := hc1 k kP
        have g2 := hc2 k kQ
        rw [← hy] at g1
        rw [← hz] at g2
        have HY : Hid (y = P[k]?.getD 0) := hy
        have HZ : Hid (z = Q[k]?.getD 0) := hz
        have j1 : (k : Int) < (P.length : Int) := by omega
        have j2 : (k : Int) < (Q.length : Int) := by omega
        clear hc1 hc2 rP rQ hy hz mP mQ
        go_wp2
        go_quiet (fail)
        go_wp2
        · have he : (y == z) = true := by assumption
          go_roundw
          case rel =>
            refine ⟨k + 1, by omega, by go_num, HX1.out, HX2.out, below_drewN HBL.out _, ?_⟩
            intro j hj
            by_cases hjk : j < k
            · exact HK.out j hjk
            · obtain rfl : j = k := by omega
              rw [← HY.out, ← HZ.out]
              simpa using he
          case measure => simp [intOf]; omega
        · have hne : (y == z) = false := by assumption
          have HD : Hid (k < qn / 2 → P[k]?.getD 0 ≠ Q[k]?.getD 0) := fun _ e => by
            rw [← HY.out, ← HZ.out] at e
            rw [e] at hne
            simp at hne
          have i6 : decide (2 * (k : Int) < (qn : Int)) = true := by simp; omega
          clear hne g1 g2 HY HZ i0
          have HX1r : Hid (Box (wr.drewN nq).drew (w.heap.size) (.slice (some ⟨b1, o1, none⟩) P.length c) (.int .i64 pn)) := HX1.out
          have HX2r : Hid (Box (wr.drewN nq).drew (w.heap.size + 1) (.slice (some ⟨b2, o2, none⟩) Q.length c') (.int .i64 qn)) := HX2.out
          have HBLr : Hid (Below w.heap.size w (wr.drewN nq).drew) := (below_drewN HBL.out nq).drew
          clear HX1 HX2 HBL
          go_region_held3 (fun w' => w'.cell? ⟨w.heap.size, 0, none⟩ = some (.slice (some ⟨b1, o1, none⟩) P.length c) ∧ w'.cell? ⟨w.heap.size, 1, none⟩ = some (.int .i64 pn) ∧ w'.cell? ⟨w.heap.size + 1, 0, none⟩ = some (.slice (some ⟨b2, o2, none⟩) Q.length c') ∧ w'.cell? ⟨w.heap.size + 1, 1, none⟩ = some (.int .i64 qn)) (first | (exact ⟨HX1r.out.c0, HX1r.out.c1, HX2r.out.c0, HX2r.out.c1⟩) | (exact ⟨(HX1r.out.below hbp).c0, (HX1r.out.below hbp).c1, (HX2r.out.below hbp).c0, (HX2r.out.below hbp).c1⟩) | (exact ⟨(HX1r.out.below hbq).c0, (HX1r.out.below hbq).c1, (HX2r.out.below hbq).c0, (HX2r.out.below hbq).c1⟩) | (exact ⟨((HX1r.out.below hbp).below hbq).c0, ((HX1r.out.below hbp).below hbq).c1, ((HX2r.out.below hbp).below hbq).c0, ((HX2r.out.below hbp).below hbq).c1⟩) | (exact ⟨((HX1r.out.below hbq).below hbp).c0, ((HX1r.out.below hbq).below hbp).c1, ((HX2r.out.below hbq).below hbp).c0, ((HX2r.out.below hbq).below hbp).c1⟩))
            (first | (go_at_call_of 35 (Value.slice (some ⟨b1, o1, none⟩) P.length c); refine (at_int _ P _ _ (2 * k) _ ?_ ?_ ?_ ?_).mono ?_; (omega); (first | (exact HIP.out _ HBLr.out) | (exact HIP.out _ (HBLr.out.trans (hbq.mono HBLr.out.size)))); (omega); (omega); rintro e wp ⟨rfl, hbp⟩)
                   | (go_at_call_of 35 (Value.slice (some ⟨b2, o2, none⟩) Q.length c'); refine (at_int _ Q _ _ (2 * k) _ ?_ ?_ ?_ ?_).mono ?_; (omega); (first | (exact HIQ.out _ HBLr.out) | (exact HIQ.out _ (HBLr.out.trans (hbp.mono HBLr.out.size)))); (omega); (omega); rintro e wq ⟨rfl, hbq⟩))
          all_goals
            go_wp2
          all_goals
            first
            | (have he : (nib P (2 * k) == nib Q (2 * k)) = true := by assumption
               go_ret
               refine ⟨2 * k + 1, ret_int (by omega), com_odd HMIN.out HK.out (by omega) (by simpa using he) HD.out, ?_⟩
               first | (exact below3 HBLr.out hbp hbq) | (exact below3 HBLr.out hbq hbp))
            | (have he : (nib P (2 * k) == nib Q (2 * k)) = false := by assumption
               go_ret
               refine ⟨2 * k, ret_int (by omega), com_even HMIN.out HK.out (by omega) (fun _ => by simpa using he), ?_⟩
               first | (exact below3 HBLr.out hbp hbq) | (exact below3 HBLr.out hbq hbp))
      · have i0 : decide ((k : Int) < (qn : Int) / 2) = false := by simp; omega
        clear HIPr HIQr
        go_wp2
        go_quiet (fail)
        go_wp2
        clear i0
        have hkk : k = qn / 2 := by omega
        have HKK : Hid (k = qn / 2) := hkk
        clear hkk
        by_cases hodd : 2 * k < qn
        · have i6 : decide (2 * (k : Int) < (qn : Int)) = true := by simp; omega
          have HX1r : Hid (Box (wr.drewN nq).drew (w.heap.size) (.slice a m0 c) (.int .i64 pn)) := HX1.out
          have HX2r : Hid (Box (wr.drewN nq).drew (w.heap.size + 1) (.slice a' m0' c') (.int .i64 qn)) := HX2.out
          have HBLr : Hid (Below w.heap.size w (wr.drewN nq).drew) := (below_drewN HBL.out nq).drew
          clear HX1 HX2 HBL
          go_region_held3 (fun w' => w'.cell? ⟨w.heap.size, 0, none⟩ = some (.slice a m0 c) ∧ w'.cell? ⟨w.heap.size, 1, none⟩ = some (.int .i64 pn) ∧ w'.cell? ⟨w.heap.size + 1, 0, none⟩ = some (.slice a' m0' c') ∧ w'.cell? ⟨w.heap.size + 1, 1, none⟩ = some (.int .i64 qn)) (first | (exact ⟨HX1r.out.c0, HX1r.out.c1, HX2r.out.c0, HX2r.out.c1⟩) | (exact ⟨(HX1r.out.below hbp).c0, (HX1r.out.below hbp).c1, (HX2r.out.below hbp).c0, (HX2r.out.below hbp).c1⟩) | (exact ⟨(HX1r.out.below hbq).c0, (HX1r.out.below hbq).c1, (HX2r.out.below hbq).c0, (HX2r.out.below hbq).c1⟩) | (exact ⟨((HX1r.out.below hbp).below hbq).c0, ((HX1r.out.below hbp).below hbq).c1, ((HX2r.out.below hbp).below hbq).c0, ((HX2r.out.below hbp).below hbq).c1⟩) | (exact ⟨((HX1r.out.below hbq).below hbp).c0, ((HX1r.out.below hbq).below hbp).c1, ((HX2r.out.below hbq).below hbp).c0, ((HX2r.out.below hbq).below hbp).c1⟩))
            (first | (go_at_call_of 35 (Value.slice a m0 c); refine (at_int _ P _ _ (2 * k) _ ?_ ?_ ?_ ?_).mono ?_; (omega); (first | (exact HIP.out _ HBLr.out) | (exact HIP.out _ (HBLr.out.trans (hbq.mono HBLr.out.size)))); (omega); (omega); rintro e wp ⟨rfl, hbp⟩)
                   | (go_at_call_of 35 (Value.slice a' m0' c'); refine (at_int _ Q _ _ (2 * k) _ ?_ ?_ ?_ ?_).mono ?_; (omega); (first | (exact HIQ.out _ HBLr.out) | (exact HIQ.out _ (HBLr.out.trans (hbp.mono HBLr.out.size)))); (omega); (omega); rintro e wq ⟨rfl, hbq⟩))
          all_goals
            go_wp2
          all_goals
            first
            | (have he : (nib P (2 * k) == nib Q (2 * k)) = true := by assumption
               go_ret
               refine ⟨2 * k + 1, ret_int (by omega), com_odd HMIN.out HK.out (by omega) (by simpa using he) (fun h => absurd h (by have := HKK.out; omega)), ?_⟩
               first | (exact below3 HBLr.out hbp hbq) | (exact below3 HBLr.out hbq hbp))
            | (have he : (nib P (2 * k) == nib Q (2 * k)) = false := by assumption
               go_ret
               refine ⟨2 * k, ret_int (by omega), com_even HMIN.out HK.out (by omega) (fun _ => by simpa using he), ?_⟩
               first | (exact below3 HBLr.out hbp hbq) | (exact below3 HBLr.out hbq hbp))
        · have i6 : decide (2 * (k : Int) < (qn : Int)) = false := by simp; omega
          go_quiet (fail)
          go_wp2
          go_ret
          refine ⟨2 * k, ret_int (by omega), com_even HMIN.out HK.out (by omega) (fun h => absurd h (by omega)), below_drewN (below_drewN HBL.out _) _⟩
  · have HMIN : Hid (pn = min pn qn) := by show _ = _; omega
    go_enter Try.func40, Try.ntmps40
    go_wp2
    go_loopw [6] (fun x wr => ∃ k : Nat, k ≤ pn / 2 ∧ x = .int .i64 k ∧ Box wr (w.heap.size) (.slice a m0 c) (.int .i64 pn) ∧ Box wr (w.heap.size + 1) (.slice a' m0' c') (.int .i64 qn) ∧ Below w.heap.size w wr ∧ Hid (∀ j, j < k → P[j]?.getD 0 = Q[j]?.getD 0)) (fun x _ => pn / 2 - (intOf x).toNat)
    case atStart => exact ⟨0, Nat.zero_le _, rfl, (box_new w _ _).alloc _, box_new_at _ _ _ _ (by simp), ((Below.refl _ _).alloc (Nat.le_refl _) _).alloc (by simp) _, fun j hj => absurd hj (by omega)⟩
    case round =>
      obtain ⟨k, hk, rfl, hx1, hx2, hbl, HK⟩ := hrel
      have HIPr := HIP.out wr hbl
      have HIQr := HIQ.out wr hbl
      have q1 := hx1.c0
      have q2 := hx1.c1
      have q3 := hx2.c0
      have q4 := hx2.c1
      have HX1 : Hid (Box wr (w.heap.size) (.slice a m0 c) (.int .i64 pn)) := hx1
      have HX2 : Hid (Box wr (w.heap.size + 1) (.slice a' m0' c') (.int .i64 qn)) := hx2
      have HBL : Hid (Below w.heap.size w wr) := hbl
      clear hx1 hx2 hbl
      by_cases hlt : k < pn / 2
      · have i0 : decide ((k : Int) < (pn : Int) / 2) = true := by simp; omega
        have kP : k < P.length := by omega
        have kQ : k < Q.length := by omega
        obtain ⟨aP, cP, eP, _, mP, _, rP⟩ := HIPr
        obtain ⟨aQ, cQ, eQ, _, mQ, _, rQ⟩ := HIQr
        obtain ⟨b1, o1, rfl, hc1⟩ := rP (by omega)
        obtain ⟨b2, o2, rfl, hc2⟩ := rQ (by omega)
        cases eP
        cases eQ
        obtain ⟨y, hy⟩ : ∃ y, y = P[k]?.getD 0 := ⟨_, rfl⟩
        obtain ⟨z, hz⟩ : ∃ z, z = Q[k]?.getD 0 := ⟨_, rfl⟩
        have g1 := hc1 k kP
        have g2 := hc2 k kQ
        rw [← hy] at g1
        rw [← hz] at g2
        have HY : Hid (y = P[k]?.getD 0) := hy
        have HZ : Hid (z = Q[k]?.getD 0) := hz
        have j1 : (k : Int) < (P.length : Int) := by omega
        have j2 : (k : Int) < (Q.length : Int) := by omega
        clear hc1 hc2 rP rQ hy hz mP mQ
        go_wp2
        go_quiet (fail)
        go_wp2
        · have he : (y == z) = true := by assumption
          go_roundw
          case rel =>
            refine ⟨k + 1, by omega, by go_num, HX1.out, HX2.out, below_drewN HBL.out _, ?_⟩
            intro j hj
            by_cases hjk : j < k
            · exact HK.out j hjk
            · obtain rfl : j = k := by omega
              rw [← HY.out, ← HZ.out]
              simpa using he
          case measure => simp [intOf]; omega
        · have hne : (y == z) = false := by assumption
          have HD : Hid (k < pn / 2 → P[k]?.getD 0 ≠ Q[k]?.getD 0) := fun _ e => by
            rw [← HY.out, ← HZ.out] at e
            rw [e] at hne
            simp at hne
          have i6 : decide (2 * (k : Int) < (pn : Int)) = true := by simp; omega
          clear hne g1 g2 HY HZ i0
          have HX1r : Hid (Box (wr.drewN nq).drew (w.heap.size) (.slice (some ⟨b1, o1, none⟩) P.length c) (.int .i64 pn)) := HX1.out
          have HX2r : Hid (Box (wr.drewN nq).drew (w.heap.size + 1) (.slice (some ⟨b2, o2, none⟩) Q.length c') (.int .i64 qn)) := HX2.out
          have HBLr : Hid (Below w.heap.size w (wr.drewN nq).drew) := (below_drewN HBL.out nq).drew
          clear HX1 HX2 HBL
          go_region_held3 (fun w' => w'.cell? ⟨w.heap.size, 0, none⟩ = some (.slice (some ⟨b1, o1, none⟩) P.length c) ∧ w'.cell? ⟨w.heap.size, 1, none⟩ = some (.int .i64 pn) ∧ w'.cell? ⟨w.heap.size + 1, 0, none⟩ = some (.slice (some ⟨b2, o2, none⟩) Q.length c') ∧ w'.cell? ⟨w.heap.size + 1, 1, none⟩ = some (.int .i64 qn)) (first | (exact ⟨HX1r.out.c0, HX1r.out.c1, HX2r.out.c0, HX2r.out.c1⟩) | (exact ⟨(HX1r.out.below hbp).c0, (HX1r.out.below hbp).c1, (HX2r.out.below hbp).c0, (HX2r.out.below hbp).c1⟩) | (exact ⟨(HX1r.out.below hbq).c0, (HX1r.out.below hbq).c1, (HX2r.out.below hbq).c0, (HX2r.out.below hbq).c1⟩) | (exact ⟨((HX1r.out.below hbp).below hbq).c0, ((HX1r.out.below hbp).below hbq).c1, ((HX2r.out.below hbp).below hbq).c0, ((HX2r.out.below hbp).below hbq).c1⟩) | (exact ⟨((HX1r.out.below hbq).below hbp).c0, ((HX1r.out.below hbq).below hbp).c1, ((HX2r.out.below hbq).below hbp).c0, ((HX2r.out.below hbq).below hbp).c1⟩))
            (first | (go_at_call_of 35 (Value.slice (some ⟨b1, o1, none⟩) P.length c); refine (at_int _ P _ _ (2 * k) _ ?_ ?_ ?_ ?_).mono ?_; (omega); (first | (exact HIP.out _ HBLr.out) | (exact HIP.out _ (HBLr.out.trans (hbq.mono HBLr.out.size)))); (omega); (omega); rintro e wp ⟨rfl, hbp⟩)
                   | (go_at_call_of 35 (Value.slice (some ⟨b2, o2, none⟩) Q.length c'); refine (at_int _ Q _ _ (2 * k) _ ?_ ?_ ?_ ?_).mono ?_; (omega); (first | (exact HIQ.out _ HBLr.out) | (exact HIQ.out _ (HBLr.out.trans (hbp.mono HBLr.out.size)))); (omega); (omega); rintro e wq ⟨rfl, hbq⟩))
          all_goals
            go_wp2
          all_goals
            first
            | (have he : (nib P (2 * k) == nib Q (2 * k)) = true := by assumption
               go_ret
               refine ⟨2 * k + 1, ret_int (by omega), com_odd HMIN.out HK.out (by omega) (by simpa using he) HD.out, ?_⟩
               first | (exact below3 HBLr.out hbp hbq) | (exact below3 HBLr.out hbq hbp))
            | (have he : (nib P (2 * k) == nib Q (2 * k)) = false := by assumption
               go_ret
               refine ⟨2 * k, ret_int (by omega), com_even HMIN.out HK.out (by omega) (fun _ => by simpa using he), ?_⟩
               first | (exact below3 HBLr.out hbp hbq) | (exact below3 HBLr.out hbq hbp))
      · have i0 : decide ((k : Int) < (pn : Int) / 2) = false := by simp; omega
        clear HIPr HIQr
        go_wp2
        go_quiet (fail)
        go_wp2
        clear i0
        have hkk : k = pn / 2 := by omega
        have HKK : Hid (k = pn / 2) := hkk
        clear hkk
        by_cases hodd : 2 * k < pn
        · have i6 : decide (2 * (k : Int) < (pn : Int)) = true := by simp; omega
          have HX1r : Hid (Box (wr.drewN nq).drew (w.heap.size) (.slice a m0 c) (.int .i64 pn)) := HX1.out
          have HX2r : Hid (Box (wr.drewN nq).drew (w.heap.size + 1) (.slice a' m0' c') (.int .i64 qn)) := HX2.out
          have HBLr : Hid (Below w.heap.size w (wr.drewN nq).drew) := (below_drewN HBL.out nq).drew
          clear HX1 HX2 HBL
          go_region_held3 (fun w' => w'.cell? ⟨w.heap.size, 0, none⟩ = some (.slice a m0 c) ∧ w'.cell? ⟨w.heap.size, 1, none⟩ = some (.int .i64 pn) ∧ w'.cell? ⟨w.heap.size + 1, 0, none⟩ = some (.slice a' m0' c') ∧ w'.cell? ⟨w.heap.size + 1, 1, none⟩ = some (.int .i64 qn)) (first | (exact ⟨HX1r.out.c0, HX1r.out.c1, HX2r.out.c0, HX2r.out.c1⟩) | (exact ⟨(HX1r.out.below hbp).c0, (HX1r.out.below hbp).c1, (HX2r.out.below hbp).c0, (HX2r.out.below hbp).c1⟩) | (exact ⟨(HX1r.out.below hbq).c0, (HX1r.out.below hbq).c1, (HX2r.out.below hbq).c0, (HX2r.out.below hbq).c1⟩) | (exact ⟨((HX1r.out.below hbp).below hbq).c0, ((HX1r.out.below hbp).below hbq).c1, ((HX2r.out.below hbp).below hbq).c0, ((HX2r.out.below hbp).below hbq).c1⟩) | (exact ⟨((HX1r.out.below hbq).below hbp).c0, ((HX1r.out.below hbq).below hbp).c1, ((HX2r.out.below hbq).below hbp).c0, ((HX2r.out.below hbq).below hbp).c1⟩))
            (first | (go_at_call_of 35 (Value.slice a m0 c); refine (at_int _ P _ _ (2 * k) _ ?_ ?_ ?_ ?_).mono ?_; (omega); (first | (exact HIP.out _ HBLr.out) | (exact HIP.out _ (HBLr.out.trans (hbq.mono HBLr.out.size)))); (omega); (omega); rintro e wp ⟨rfl, hbp⟩)
                   | (go_at_call_of 35 (Value.slice a' m0' c'); refine (at_int _ Q _ _ (2 * k) _ ?_ ?_ ?_ ?_).mono ?_; (omega); (first | (exact HIQ.out _ HBLr.out) | (exact HIQ.out _ (HBLr.out.trans (hbp.mono HBLr.out.size)))); (omega); (omega); rintro e wq ⟨rfl, hbq⟩))
          all_goals
            go_wp2
          all_goals
            first
            | (have he : (nib P (2 * k) == nib Q (2 * k)) = true := by assumption
               go_ret
               refine ⟨2 * k + 1, ret_int (by omega), com_odd HMIN.out HK.out (by omega) (by simpa using he) (fun h => absurd h (by have := HKK.out; omega)), ?_⟩
               first | (exact below3 HBLr.out hbp hbq) | (exact below3 HBLr.out hbq hbp))
            | (have he : (nib P (2 * k) == nib Q (2 * k)) = false := by assumption
               go_ret
               refine ⟨2 * k, ret_int (by omega), com_even HMIN.out HK.out (by omega) (fun _ => by simpa using he), ?_⟩
               first | (exact below3 HBLr.out hbp hbq) | (exact below3 HBLr.out hbq hbp))
        · have i6 : decide (2 * (k : Int) < (pn : Int)) = false := by simp; omega
          go_quiet (fail)
          go_wp2
          go_ret
          refine ⟨2 * k, ret_int (by omega), com_even HMIN.out HK.out (by omega) (fun h => absurd h (by omega)), below_drewN (below_drewN HBL.out _) _⟩
end Go.Proofs.Qxb6003407a
