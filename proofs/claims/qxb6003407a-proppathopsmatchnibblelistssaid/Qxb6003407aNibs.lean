/-
  'c2ReadNibs': the list of tokens that a row of bytes stands for.
-/
import Derived.Test.Qxb6003407aRows
import Derived.Test.Qxb6003407aMem
namespace Go.Proofs.Qxb6003407a
open Go.RowKit

theorem info5 : (Try.prog.info? 5).map (fun i => (i.zero, i.size, i.bytes)) = some (some (.int .u8 0), 1, 1) := by kernel_rfl

/-- 'make([]byte, n)'. -/
theorem mk (W : World) (n : Nat) (x : Int) (hx : x = (n : Int)) (hn : n ≤ 1048576) : (Instr.makeSlice 22 (.int .i64 x) (.int .i64 x)).run Try.prog W = .ok (.slice (some ⟨W.heap.size, 0, none⟩) n n) (W.alloc (zer n)) := by
  subst hx
  obtain ⟨i0, hi, hz0, hz1, hz2⟩ := info_parts info5
  have h := run_make (P := Try.prog) W 22 5 i0 (.int .u8 0) Try.underlying22 hi hz0 .i64 .i64 n n (by omega) (by omega) (by rw [hz2]; omega) (by omega)
  have e : madeCells (Value.int IntKind.u8 0).cells (n * 1) = Array.replicate n (Value.int .u8 0) := by
    apply Array.toList_inj.1
    rw [show (Value.int IntKind.u8 0).cells = #[Value.int IntKind.u8 0] from rfl, Nat.mul_one, toList_madeCells_one]
    simp
  rw [h, hz1, Int.toNat_natCast, e]
  rfl

theorem nib_even_of {L : List Int} {k : Nat} {z : Int} (he : k % 2 = 0) (hz : z = L[k / 2]?.getD 0) : nib L k = z / 16 := by rw [nib_even he, hz]
theorem nib_odd_of {L : List Int} {k : Nat} {z : Int} (he : ¬ k % 2 = 0) (hz : z = L[k / 2]?.getD 0) : nib L k = z % 16 := by rw [nib_odd (by omega), hz]

/-- 'c2ReadNibs' where the bytes suffice. -/
theorem read_ok (v : Value) (L : List Int) (n : Nat) (w : World) (h : IsB w v L) (hn : n ≤ 262144) (hl : (n + 1) / 2 ≤ L.length) :
    Calls Try.prog 10 #[v, .int .i64 n] w fun e w' => ∃ v', e = .returned (.tuple #[v', .bool true]) ∧ IsB w' v' (tab (nib L) n) ∧ Below w.heap.size w w' := by
  obtain ⟨a, c, rfl, hc, hm, hb, hr⟩ := h
  unfold maxLen at hm
  have HR : Hid (0 < L.length → ∃ b off, a = some ⟨b, off, none⟩ ∧ ∀ i, i < L.length → w.cell? ⟨b, off + i, none⟩ = some (.int .u8 (L[i]?.getD 0))) := hr
  have HB : Hid (Byt L) := hb
  clear hr hb
  have hmk := fun W => mk W n (n : Int) rfl (by omega)
  have t1 : decide ((n : Int) < 0) = false := by simp
  have t2 : decide (262144 < (n : Int)) = false := by simp; omega
  have t3 : decide ((L.length : Int) < ((n : Int) + 1) / 2) = false := by simp; omega
  go_enter Try.func10, Try.ntmps10
  go_wp2
  go_loopw [7] (fun i wr => ∃ k : Nat, k ≤ n ∧ i = .int .i64 k ∧ Own wr w.heap.size (tab (cut (nib L) k) n) ∧ Below w.heap.size w wr) (fun i _ => n - (intOf i).toNat)
  case atStart =>
    refine ⟨0, Nat.zero_le _, rfl, ?_, (Below.refl _ _).alloc (Nat.le_refl _) _⟩
    rw [tab_cut_zero]
    exact own_zer w n
  case round =>
    obtain ⟨k, hk, rfl, ho, hbl⟩ := hrel
    by_cases hlt : k < n
    · have hk2 : k / 2 < L.length := by omega
      obtain ⟨b, o, rfl, hx⟩ := HR.out (by omega)
      have hz := HB.out.at (k / 2)
      obtain ⟨z, hzz⟩ : ∃ z, z = L[k / 2]?.getD 0 := ⟨_, rfl⟩
      have g1 : wr.cell? ⟨b, o + k / 2, none⟩ = some (.int .u8 z) := by
        rw [hzz]
        exact (hbl.cell (p := ⟨b, o + k / 2, none⟩) (cell_block_lt (hx _ hk2))).trans (hx _ hk2)
      rw [← hzz] at hz
      obtain ⟨hz0, hz1⟩ := hz
      have HZ : Hid (z = L[k / 2]?.getD 0) := hzz
      have HO : Hid (Own wr w.heap.size (tab (cut (nib L) k) n)) := ho
      have g2 := ho.cell (i := k) (by rw [tab_length]; exact hlt)
      have g3 := ho.frozen k
      have i1 : (k : Int) / 2 < (L.length : Int) := by omega
      clear hx hzz ho
      by_cases he : k % 2 = 0
      · have e1 : ((k : Int) % 2 == 0) = true := by simp; omega
        go_wp2
        go_roundw
        case rel =>
          exact ⟨k + 1, by omega, by go_num, HO.out.step (nib_even_of he HZ.out), below_set hbl (Nat.le_refl _) _ _⟩
        case measure => simp [intOf]; omega
      · have e1 : ((k : Int) % 2 == 0) = false := by simp; omega
        go_wp2
        go_roundw
        case rel =>
          exact ⟨k + 1, by omega, by go_num, HO.out.step (nib_odd_of he HZ.out), below_set hbl (Nat.le_refl _) _ _⟩
        case measure => simp [intOf]; omega
    · obtain rfl : k = n := by omega
      go_wp2
      go_ret2
      refine ⟨_, rfl, ?_, hbl⟩
      rw [tab_cut_all] at ho
      have := ho.isB (by rw [tab_length]; unfold maxLen; omega) (byt_tab fun i _ => by have := nib_bd HB.out i; omega)
      rwa [tab_length] at this

/-- 'c2ReadNibs' where they do not. -/
theorem read_no (v : Value) (L : List Int) (n : Nat) (w : World) (h : IsB w v L) (hn : n ≤ 262144) (hl : L.length < (n + 1) / 2) :
    Calls Try.prog 10 #[v, .int .i64 n] w fun e w' => e = .returned (.tuple #[.slice none 0 0, .bool false]) ∧ Below w.heap.size w w' := by
  obtain ⟨a, c, rfl, hc, hm, hb, hr⟩ := h
  unfold maxLen at hm
  clear hr hb
  have t1 : decide ((n : Int) < 0) = false := by simp
  have t2 : decide (262144 < (n : Int)) = false := by simp; omega
  have t3 : decide ((L.length : Int) < ((n : Int) + 1) / 2) = true := by simp; omega
  go_enter Try.func10, Try.ntmps10
  go_wp2
  go_ret2
  exact ⟨rfl, Below.refl _ _⟩
end Go.Proofs.Qxb6003407a
