/-
  c2Eq: are two rows of bytes alike?
-/
import Derived.Test.Qxb6003407aRows
import Derived.Test.Qxb6003407aMem
import Derived.Deep.QuietTactic
import Derived.BigQuiet
namespace Go.Proofs.Qxb6003407a
open Go.RowKit

theorem list_eq {l1 l2 : List Int} (hl : l1.length = l2.length) (h : ∀ j, j < l1.length → l1[j]?.getD 0 = l2[j]?.getD 0) : l1 = l2 := by
  refine List.ext_getElem hl fun j h1 h2 => ?_
  have := h j h1
  rw [List.getElem?_eq_getElem h1, List.getElem?_eq_getElem h2] at this
  exact this

/-- 'c2Eq': are the two rows of bytes alike? -/
theorem eq_any (v1 v2 : Value) (l1 l2 : List Int) (w : World) (h1 : IsB w v1 l1) (h2 : IsB w v2 l2) :
    Calls Try.prog 11 #[v1, v2] w fun e w' => e = .returned (.bool (decide (l1 = l2))) ∧ Below w.heap.size w w' := by
  obtain ⟨a1, c1, rfl, hc1, hm1, hb1, hr1⟩ := h1
  obtain ⟨a2, c2, rfl, hc2, hm2, hb2, hr2⟩ := h2
  unfold maxLen at hm1 hm2
  have HR1 : Hid (0 < l1.length → ∃ b off, a1 = some ⟨b, off, none⟩ ∧ ∀ i, i < l1.length → w.cell? ⟨b, off + i, none⟩ = some (.int .u8 (l1[i]?.getD 0))) := hr1
  have HR2 : Hid (0 < l2.length → ∃ b off, a2 = some ⟨b, off, none⟩ ∧ ∀ i, i < l2.length → w.cell? ⟨b, off + i, none⟩ = some (.int .u8 (l2[i]?.getD 0))) := hr2
  have HB1 : Hid (Byt l1) := hb1
  have HB2 : Hid (Byt l2) := hb2
  clear hr1 hr2 hb1 hb2
  by_cases hlen : l1.length = l2.length
  · have HL : Hid (l1.length = l2.length) := hlen
    have t1 : ((l1.length : Int) != (l2.length : Int)) = false := by simp; omega
    clear hlen
    go_enter Try.func11, Try.ntmps11
    go_wp2
    go_loopw [5] (fun i wr => ∃ (k : Nat), k ≤ l1.length ∧ i = .int .i64 k ∧ Below w.heap.size w wr ∧ Hid (∀ j, j < k → l1[j]?.getD 0 = l2[j]?.getD 0)) (fun i _ => l1.length - (intOf i).toNat)
    case atStart => exact ⟨0, Nat.zero_le _, rfl, Below.refl _ _, fun j hj => absurd hj (by omega)⟩
    case round =>
      obtain ⟨k, hk, rfl, hb, HK⟩ := hrel
      by_cases hlt : k < l1.length
      · have hlt2 : k < l2.length := by have := HL.out; omega
        obtain ⟨b1, o1, rfl, hx1⟩ := HR1.out (by omega)
        obtain ⟨b2, o2, rfl, hx2⟩ := HR2.out (by omega)
        have i1 : (k : Int) < (l1.length : Int) := by omega
        have i2 : (k : Int) < (l2.length : Int) := by omega
        have g1 : wr.cell? ⟨b1, o1 + k, none⟩ = some (.int .u8 (l1[k]?.getD 0)) := (hb.cell (p := ⟨b1, o1 + k, none⟩) (cell_block_lt (hx1 k hlt))).trans (hx1 k hlt)
        have g2 : wr.cell? ⟨b2, o2 + k, none⟩ = some (.int .u8 (l2[k]?.getD 0)) := (hb.cell (p := ⟨b2, o2 + k, none⟩) (cell_block_lt (hx2 k hlt2))).trans (hx2 k hlt2)
        clear hx1 hx2
        go_wp2
        go_quiet (fail)
        go_wp2
        · have hne : (l1[k] != l2[k]) = true := by assumption
          go_ret
          refine ⟨ret_bool ?_, below_drewN hb _⟩
          rw [eq_comm, decide_eq_false_iff_not]
          intro e
          subst e
          simp at hne
        · have he : (l1[k] != l2[k]) = false := by assumption
          go_roundw
          case rel =>
            refine ⟨k + 1, by omega, by go_num, below_drewN hb _, ?_⟩
            intro j hj
            by_cases hjk : j < k
            · exact HK.out j hjk
            · obtain rfl : j = k := by omega
              rw [List.getElem?_eq_getElem hlt, List.getElem?_eq_getElem hlt2]
              simpa using he
          case measure => simp [intOf]; omega
      · go_wp2
        go_ret
        refine ⟨ret_bool ?_, hb⟩
        rw [eq_comm, decide_eq_true_eq]
        exact list_eq HL.out fun j hj => HK.out j (by omega)
  · have t1 : ((l1.length : Int) != (l2.length : Int)) = true := by simp; omega
    go_enter Try.func11, Try.ntmps11
    go_wp2
    go_ret
    exact ⟨ret_bool (by rw [eq_comm, decide_eq_false_iff_not]; exact fun e => hlen (by rw [e])), Below.refl _ _⟩

end Go.Proofs.Qxb6003407a
