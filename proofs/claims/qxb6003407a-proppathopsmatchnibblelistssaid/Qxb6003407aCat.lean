/-
  'c2Concat', 'c2KeyNibs'.
-/
import Derived.Test.Qxb6003407aNibs
namespace Go.Proofs.Qxb6003407a
open Go.RowKit

theorem cat_left {A B : List Int} {k : Nat} (h : k < A.length) : (A ++ B)[k]?.getD 0 = A[k]?.getD 0 := by
  rw [List.getElem?_append_left h]
theorem cat_right {A B : List Int} {k : Nat} : (A ++ B)[A.length + k]?.getD 0 = B[k]?.getD 0 := by
  rw [List.getElem?_append_right (by omega), Nat.add_sub_cancel_left]
theorem tab_cat (A B : List Int) : tab (fun i => (A ++ B)[i]?.getD 0) (A.length + B.length) = A ++ B := by
  rw [← List.length_append]
  exact tab_self (A ++ B)
theorem Byt.append {A B : List Int} (ha : Byt A) (hb : Byt B) : Byt (A ++ B) := fun z hz => (List.mem_append.1 hz).elim (ha z) (hb z)

/-- 'c2Concat'. -/
theorem concat_any (v1 v2 : Value) (A B : List Int) (w : World) (h1 : IsB w v1 A) (h2 : IsB w v2 B) (hA : A.length ≤ 262144) (hB : B.length ≤ 262144) :
    Calls Try.prog 14 #[v1, v2] w fun e w' => ∃ v', e = .returned v' ∧ IsB w' v' (A ++ B) ∧ Below w.heap.size w w' := by
  obtain ⟨a1, c1, rfl, hc1, hm1, hb1, hr1⟩ := h1
  obtain ⟨a2, c2, rfl, hc2, hm2, hb2, hr2⟩ := h2
  unfold maxLen at hm1 hm2
  have HR1 : Hid (0 < A.length → ∃ b off, a1 = some ⟨b, off, none⟩ ∧ ∀ i, i < A.length → w.cell? ⟨b, off + i, none⟩ = some (.int .u8 (A[i]?.getD 0))) := hr1
  have HR2 : Hid (0 < B.length → ∃ b off, a2 = some ⟨b, off, none⟩ ∧ ∀ i, i < B.length → w.cell? ⟨b, off + i, none⟩ = some (.int .u8 (B[i]?.getD 0))) := hr2
  have HB : Hid (Byt (A ++ B)) := hb1.append hb2
  clear hr1 hr2 hb1 hb2
  have hmk := fun W => mk W (A.length + B.length) ((A.length : Int) + (B.length : Int)) (by omega) (by omega)
  obtain ⟨N, hN⟩ : ∃ N : Nat → Int, N = fun i => (A ++ B)[i]?.getD 0 := ⟨_, rfl⟩
  have HN1 : Hid (∀ k, k < A.length → N k = A[k]?.getD 0) := fun k hk => by rw [hN]; exact cat_left hk
  have HN2 : Hid (∀ k, N (A.length + k) = B[k]?.getD 0) := fun k => by rw [hN]; exact cat_right
  have HN3 : Hid (tab N (A.length + B.length) = A ++ B) := by rw [hN]; exact tab_cat A B
  clear hN
  go_enter Try.func14, Try.ntmps14
  go_wp2
  go_loopw [6] (fun i wr => ∃ k : Nat, k ≤ A.length ∧ i = .int .i64 k ∧ Own wr w.heap.size (tab (cut N k) (A.length + B.length)) ∧ Below w.heap.size w wr) (fun i _ => A.length - (intOf i).toNat)
  case atStart =>
    refine ⟨0, Nat.zero_le _, rfl, ?_, (Below.refl _ _).alloc (Nat.le_refl _) _⟩
    rw [tab_cut_zero]
    exact own_zer w _
  case round =>
    obtain ⟨k, hk, rfl, ho, hbl⟩ := hrel
    by_cases hlt : k < A.length
    · obtain ⟨b, o, rfl, hx⟩ := HR1.out (by omega)
      obtain ⟨z, hzz⟩ : ∃ z, z = A[k]?.getD 0 := ⟨_, rfl⟩
      have g1 : wr.cell? ⟨b, o + k, none⟩ = some (.int .u8 z) := by
        rw [hzz]
        exact (hbl.cell (p := ⟨b, o + k, none⟩) (cell_block_lt (hx _ hlt))).trans (hx _ hlt)
      have HZ : Hid (N k = z) := by show _ = _; rw [HN1.out k hlt, hzz]
      have HO : Hid (Own wr w.heap.size (tab (cut N k) (A.length + B.length))) := ho
      have g2 := ho.cell (i := k) (by rw [tab_length]; omega)
      have g3 := ho.frozen k
      have i1 : (k : Int) < (A.length : Int) := by omega
      have i2 : (k : Int) < ((A.length + B.length : Nat) : Int) := by omega
      clear hx hzz ho
      go_wp2
      go_roundw
      case rel => exact ⟨k + 1, by omega, by go_num, HO.out.step HZ.out, below_set hbl (Nat.le_refl _) _ _⟩
      case measure => simp [intOf]; omega
    · obtain rfl : k = A.length := by omega
      have HO : Hid (Own wr w.heap.size (tab (cut N A.length) (A.length + B.length))) := ho
      have HBL : Hid (Below w.heap.size w wr) := hbl
      clear ho hbl
      go_wp2
      obtain ⟨w0, hw0⟩ : ∃ w0 : World, w0 = wr := ⟨_, rfl⟩
      go_loopw [7] (fun i wr => ∃ k : Nat, k ≤ B.length ∧ i = .int .i64 k ∧ Own wr w.heap.size (tab (cut N (A.length + k)) (A.length + B.length)) ∧ Below w.heap.size w wr) (fun i _ => B.length - (intOf i).toNat)
      case atStart => exact ⟨0, Nat.zero_le _, rfl, HO.out, HBL.out⟩
      case round =>
        clear HO HBL hw0
        obtain ⟨k, hk, rfl, ho, hbl⟩ := hrel
        by_cases hlt2 : k < B.length
        · obtain ⟨b, o, rfl, hx⟩ := HR2.out (by omega)
          obtain ⟨z, hzz⟩ : ∃ z, z = B[k]?.getD 0 := ⟨_, rfl⟩
          have g1 : wr.cell? ⟨b, o + k, none⟩ = some (.int .u8 z) := by
            rw [hzz]
            exact (hbl.cell (p := ⟨b, o + k, none⟩) (cell_block_lt (hx _ hlt2))).trans (hx _ hlt2)
          have HZ : Hid (N (A.length + k) = z) := by show _ = _; rw [HN2.out k, hzz]
          have HO : Hid (Own wr w.heap.size (tab (cut N (A.length + k)) (A.length + B.length))) := ho
          have g2 := ho.cell (i := A.length + k) (by rw [tab_length]; omega)
          have g3 := ho.frozen (A.length + k)
          have i1 : (k : Int) < (B.length : Int) := by omega
          have i2 : (A.length : Int) + (k : Int) < ((A.length + B.length : Nat) : Int) := by omega
          clear hx hzz ho
          go_wp2
          go_roundw
          case rel => exact ⟨k + 1, by omega, by go_num, HO.out.step HZ.out, below_set hbl (Nat.le_refl _) _ _⟩
          case measure => simp [intOf]; omega
        · obtain rfl : k = B.length := by omega
          go_wp2
          go_ret
          refine ⟨_, rfl, ?_, hbl⟩
          rw [tab_cut_all] at ho
          have := ho.isB (by rw [tab_length]; unfold maxLen; omega) (by rw [HN3.out]; exact HB.out)
          rwa [tab_length, HN3.out] at this

end Go.Proofs.Qxb6003407a
