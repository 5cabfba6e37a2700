/-
  'c2KeyNibs', 'c2Lcp'.
-/
import Derived.Test.Qxb6003407aNibs
import Derived.Deep.QuietTactic
import Derived.BigQuiet
namespace Go.Proofs.Qxb6003407a
open Go.RowKit

/-- 'c2KeyNibs'. -/
theorem keynibs_any (v : Value) (L : List Int) (w : World) (h : IsB w v L) (hL : L.length ≤ 262144) :
    Calls Try.prog 20 #[v] w fun e w' => ∃ v', e = .returned v' ∧ IsB w' v' (tab (nib L) (2 * L.length)) ∧ Below w.heap.size w w' := by
  obtain ⟨a, c, rfl, hc, hm, hb, hr⟩ := h
  unfold maxLen at hm
  have HR : Hid (0 < L.length → ∃ b off, a = some ⟨b, off, none⟩ ∧ ∀ i, i < L.length → w.cell? ⟨b, off + i, none⟩ = some (.int .u8 (L[i]?.getD 0))) := hr
  have HB : Hid (Byt L) := hb
  clear hr hb
  have hmk := fun W => mk W (2 * L.length) (2 * (L.length : Int)) (by omega) (by omega)
  go_enter Try.func20, Try.ntmps20
  go_wp2
  go_loopw [4] (fun i wr => ∃ k : Nat, k ≤ L.length ∧ i = .int .i64 k ∧ Own wr w.heap.size (tab (cut (nib L) (2 * k)) (2 * L.length)) ∧ Below w.heap.size w wr) (fun i _ => L.length - (intOf i).toNat)
  case atStart =>
    refine ⟨0, Nat.zero_le _, rfl, ?_, (Below.refl _ _).alloc (Nat.le_refl _) _⟩
    rw [Nat.mul_zero, tab_cut_zero]
    exact own_zer w _
  case round =>
    obtain ⟨k, hk, rfl, ho, hbl⟩ := hrel
    by_cases hlt : k < L.length
    · obtain ⟨b, o, rfl, hx⟩ := HR.out (by omega)
      have hz := HB.out.at k
      obtain ⟨z, hzz⟩ : ∃ z, z = L[k]?.getD 0 := ⟨_, rfl⟩
      have hbB : b < w.heap.size := cell_block_lt (hx _ hlt)
      have hbne : ¬ b = w.heap.size := by omega
      have g1 : wr.cell? ⟨b, o + k, none⟩ = some (.int .u8 z) := by
        rw [hzz]
        exact (hbl.cell (p := ⟨b, o + k, none⟩) (cell_block_lt (hx _ hlt))).trans (hx _ hlt)
      rw [← hzz] at hz
      obtain ⟨hz0, hz1⟩ := hz
      have HZ1 : Hid (nib L (2 * k) = z / 16) := by show _ = _; rw [nib_even (by omega), show 2 * k / 2 = k by omega, hzz]
      have HZ2 : Hid (nib L (2 * k + 1) = z % 16) := by show _ = _; rw [nib_odd (by omega), show (2 * k + 1) / 2 = k by omega, hzz]
      have HO : Hid (Own wr w.heap.size (tab (cut (nib L) (2 * k)) (2 * L.length))) := ho
      have g2 := ho.cell (i := 2 * k) (by rw [tab_length]; omega)
      have g3 := ho.frozen (2 * k)
      have g4 := ho.cell (i := 2 * k + 1) (by rw [tab_length]; omega)
      have g5 := ho.frozen (2 * k + 1)
      have i1 : (k : Int) < (L.length : Int) := by omega
      have i2 : 2 * (k : Int) < ((2 * L.length : Nat) : Int) := by omega
      have i3 : 2 * (k : Int) + 1 < ((2 * L.length : Nat) : Int) := by omega
      clear hx hzz ho
      go_wp2
      go_roundw
      case rel =>
        refine ⟨k + 1, by omega, by go_num, ?_, below_set (below_set hbl (Nat.le_refl _) _ _) (Nat.le_refl _) _ _⟩
        exact (HO.out.step HZ1.out).step HZ2.out
      case measure => simp [intOf]; omega
    · obtain rfl : k = L.length := by omega
      go_wp2
      go_ret
      refine ⟨_, rfl, ?_, hbl⟩
      rw [tab_cut_all] at ho
      have := ho.isB (by rw [tab_length]; unfold maxLen; omega) (byt_tab fun i _ => by have := nib_bd HB.out i; omega)
      rwa [tab_length] at this

/-- r is the length of the common beginning of A and B. -/
def IsLcp (A B : List Int) (r : Nat) : Prop := r ≤ A.length ∧ r ≤ B.length ∧ (∀ j, j < r → A[j]?.getD 0 = B[j]?.getD 0) ∧ (r < A.length → r < B.length → A[r]?.getD 0 ≠ B[r]?.getD 0)

theorem IsLcp.symm {A B : List Int} {r : Nat} (h : IsLcp A B r) : IsLcp B A r := ⟨h.2.1, h.1, fun j hj => (h.2.2.1 j hj).symm, fun h1 h2 e => h.2.2.2 h2 h1 e.symm⟩
theorem IsLcp.unique {A B : List Int} {r s : Nat} (h : IsLcp A B r) (k : IsLcp A B s) : r = s := by
  obtain ⟨h1, h2, h3, h4⟩ := h
  obtain ⟨k1, k2, k3, k4⟩ := k
  rcases Nat.lt_trichotomy r s with hl | hl | hl
  · exact absurd (k3 r hl) (h4 (by omega) (by omega))
  · exact hl
  · exact absurd (h3 s hl) (k4 (by omega) (by omega))
theorem IsLcp.self {A : List Int} {r : Nat} (h : IsLcp A A r) : r = A.length := by
  obtain ⟨h1, _, _, h4⟩ := h
  rcases Nat.lt_or_ge r A.length with hl | hl
  · exact absurd rfl (h4 hl hl)
  · omega
theorem IsLcp.eq_iff {A B : List Int} {r : Nat} (h : IsLcp A B r) : A = B ↔ A.length = B.length ∧ r = A.length := by
  constructor
  · intro e
    subst e
    exact ⟨rfl, h.self⟩
  · rintro ⟨e1, e2⟩
    refine List.ext_getElem e1 fun j h1 h2 => ?_
    have := h.2.2.1 j (by omega)
    rw [List.getElem?_eq_getElem h1, List.getElem?_eq_getElem h2] at this
    exact this

/-- 'c2Lcp'. -/
theorem lcp_any (v1 v2 : Value) (A B : List Int) (w : World) (h1 : IsB w v1 A) (h2 : IsB w v2 B) :
    Calls Try.prog 16 #[v1, v2] w fun e w' => ∃ r : Nat, e = .returned (.int .i64 r) ∧ IsLcp A B r ∧ Below w.heap.size w w' := by
  obtain ⟨a1, c1, rfl, hc1, hm1, hb1, hr1⟩ := h1
  obtain ⟨a2, c2, rfl, hc2, hm2, hb2, hr2⟩ := h2
  unfold maxLen at hm1 hm2
  have HR1 : Hid (0 < A.length → ∃ b off, a1 = some ⟨b, off, none⟩ ∧ ∀ i, i < A.length → w.cell? ⟨b, off + i, none⟩ = some (.int .u8 (A[i]?.getD 0))) := hr1
  have HR2 : Hid (0 < B.length → ∃ b off, a2 = some ⟨b, off, none⟩ ∧ ∀ i, i < B.length → w.cell? ⟨b, off + i, none⟩ = some (.int .u8 (B[i]?.getD 0))) := hr2
  clear hr1 hr2 hb1 hb2
  go_enter Try.func16, Try.ntmps16
  go_wp2
  go_loopw [5] (fun i wr => ∃ (k : Nat), k ≤ A.length ∧ k ≤ B.length ∧ i = .int .i64 k ∧ Below w.heap.size w wr ∧ Hid (∀ j, j < k → A[j]?.getD 0 = B[j]?.getD 0)) (fun i _ => A.length - (intOf i).toNat)
  case atStart => exact ⟨0, Nat.zero_le _, Nat.zero_le _, rfl, Below.refl _ _, fun j hj => absurd hj (by omega)⟩
  case round =>
    obtain ⟨k, hk1, hk2, rfl, hb, HK⟩ := hrel
    by_cases hlt1 : k < A.length
    · have i1 : decide ((k : Int) < (A.length : Int)) = true := by simp; omega
      by_cases hlt2 : k < B.length
      · have i2 : decide ((k : Int) < (B.length : Int)) = true := by simp; omega
        obtain ⟨b1, o1, rfl, hx1⟩ := HR1.out (by omega)
        obtain ⟨b2, o2, rfl, hx2⟩ := HR2.out (by omega)
        obtain ⟨y, hy⟩ : ∃ y, y = A[k]?.getD 0 := ⟨_, rfl⟩
        obtain ⟨z, hz⟩ : ∃ z, z = B[k]?.getD 0 := ⟨_, rfl⟩
        have g1 : wr.cell? ⟨b1, o1 + k, none⟩ = some (.int .u8 y) := by
          rw [hy]
          exact (hb.cell (p := ⟨b1, o1 + k, none⟩) (cell_block_lt (hx1 k hlt1))).trans (hx1 k hlt1)
        have g2 : wr.cell? ⟨b2, o2 + k, none⟩ = some (.int .u8 z) := by
          rw [hz]
          exact (hb.cell (p := ⟨b2, o2 + k, none⟩) (cell_block_lt (hx2 k hlt2))).trans (hx2 k hlt2)
        have HY : Hid (y = A[k]?.getD 0) := hy
        have HZ : Hid (z = B[k]?.getD 0) := hz
        have j1 : (k : Int) < (A.length : Int) := by omega
        have j2 : (k : Int) < (B.length : Int) := by omega
        clear hx1 hx2 hy hz
        go_wp2
        go_quiet (fail)
        go_wp2
        · have he : (y == z) = true := by assumption
          go_roundw
          case rel =>
            refine ⟨k + 1, by omega, by omega, by go_num, below_drewN hb _, ?_⟩
            intro j hj
            by_cases hjk : j < k
            · exact HK.out j hjk
            · obtain rfl : j = k := by omega
              rw [← HY.out, ← HZ.out]
              simpa using he
          case measure => simp [intOf]; omega
        · have he : (y == z) = false := by assumption
          go_ret
          refine ⟨k, rfl, ⟨hk1, hk2, HK.out, fun _ _ e => ?_⟩, below_drewN hb _⟩
          rw [← HY.out, ← HZ.out] at e
          rw [e] at he
          simp at he
      · have i2 : decide ((k : Int) < (B.length : Int)) = false := by simp; omega
        go_wp2
        go_quiet (fail)
        go_wp2
        go_ret
        exact ⟨k, rfl, ⟨hk1, hk2, HK.out, fun _ h => absurd h hlt2⟩, below_drewN hb _⟩
    · have i1 : decide ((k : Int) < (A.length : Int)) = false := by simp; omega
      go_wp2
      go_quiet (fail)
      go_wp2
      go_ret
      exact ⟨k, rfl, ⟨hk1, hk2, HK.out, fun h => absurd h hlt1⟩, below_drewN hb _⟩
end Go.Proofs.Qxb6003407a
