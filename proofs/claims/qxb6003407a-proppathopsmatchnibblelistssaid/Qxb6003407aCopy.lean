/-
  'zzc := make([]byte, len(b)); copy(zzc, b)'.
-/
import Derived.Test.Qxb6003407aNibs
import Derived.Laws.CopyOwn
namespace Go.Proofs.Qxb6003407a
open Go.RowKit

theorem size5 : (Try.prog.info? 5).map (·.size) = some 1 := by kernel_rfl

theorem IsB.len {w : World} {a : Option Addr} {n c : Nat} {l : List Int} (h : IsB w (.slice a n c) l) : n = l.length := by
  obtain ⟨a', cap, hv, _⟩ := h
  cases hv
  rfl

/-- What the copy leaves: a row of its own with the same bytes; nothing old has turned. -/
theorem copy_fact (W : World) (a : Option Addr) (n c : Nat) (L : List Int) (h : IsB W (.slice a n c) L) : ∃ W2, (∀ ty, (Builtin.copy_ #[22, 22] ty #[.slice (some ⟨W.heap.size, 0, none⟩) n n, .slice a n c]).run Try.prog (W.alloc (zer n)) = .ok (goInt n) W2) ∧ IsB W2 (.slice (some ⟨W.heap.size, 0, none⟩) n n) L ∧ Below W.heap.size W W2 := by
  have hn := h.len
  have hbyt := h.byt
  have hz := own_zer W n
  have hbz : Below W.heap.size W (W.alloc (zer n)) := (Below.refl _ _).alloc (Nat.le_refl _) _
  have h2 := h.below hbz
  obtain ⟨a', cap, hv, hl, hm, hb, hr⟩ := h2
  cases hv
  have hnm : L.length ≤ maxLen := by omega
  by_cases h0 : L.length = 0
  · refine ⟨W.alloc (zer L.length), fun ty => ?_, ?_, hbz⟩
    · have := run_copy_none (P := Try.prog) (W.alloc (zer L.length)) 22 22 ty 5 (some ⟨W.heap.size, 0, none⟩) a L.length L.length L.length c Try.underlying22 size5 (by rw [h0]; rfl)
      rw [this, h0]
      rfl
    · obtain rfl : L = [] := List.length_eq_zero_iff.1 h0
      exact hz.isB (by simp [maxLen]) hbyt
  · obtain ⟨b, off, rfl, hc⟩ := hr (by omega)
    have hz' : (W.alloc (zer L.length)).heap[W.heap.size]? = some (.cells (Array.replicate L.length (Value.int .u8 0)) 5 (0, 0)) := by
      show (W.heap.push _)[W.heap.size]? = _
      rw [Array.getElem?_push, if_pos rfl]
      rfl
    have hrun := fun ty => run_copy_row (P := Try.prog) (W.alloc (zer L.length)) 22 22 ty 5 W.heap.size 0 L.length L.length ⟨b, off, none⟩ L.length c (Array.replicate L.length (Value.int .u8 0)) 5 (L.map fun z => Value.int .u8 z) Try.underlying22 size5 hz' (by simp)
      (fun j v hj => by
        have hjl : j < L.length := by
          have := (List.getElem?_eq_some_iff.1 hj).1
          simpa using this
        have := hc j hjl
        rw [show (⟨b, off, none⟩ : Addr).add j = ⟨b, off + j, none⟩ by simp [Addr.add], this]
        simp only [List.getElem?_map] at hj
        rw [List.getElem?_eq_getElem hjl] at hj ⊢
        exact hj)
      (by simp) (fun v hv => by
        obtain ⟨z, _, rfl⟩ := List.mem_map.1 hv
        rfl)
    have earr : (List.take 0 (Array.replicate L.length (Value.int IntKind.u8 0)).toList ++ (L.map fun z => Value.int .u8 z) ++ List.drop (0 + (L.map fun z => Value.int .u8 z).length) (Array.replicate L.length (Value.int IntKind.u8 0)).toList).toArray = (L.map fun z => Value.int .u8 z).toArray := by
      simp
    have hrun2 : ∀ ty, (Builtin.copy_ #[22, 22] ty #[.slice (some ⟨W.heap.size, 0, none⟩) L.length L.length, .slice (some ⟨b, off, none⟩) L.length c]).run Try.prog (W.alloc (zer L.length)) = .ok (goInt L.length) ((W.alloc (zer L.length)).setRow W.heap.size (L.map fun z => Value.int .u8 z).toArray) := fun ty => by
      have := hrun ty
      rw [earr, List.length_map] at this
      exact this
    refine ⟨_, hrun2, ?_, ?_⟩
    · have ho : Own ((W.alloc (zer L.length)).setRow W.heap.size (L.map fun z => Value.int .u8 z).toArray) W.heap.size L := setRow_heap _ _ _ _ _ _ hz'
      exact ho.isB hnm hbyt
    · refine hbz.trans ⟨rfl, rfl, rfl, by simp [World.setRow], fun k hk => ?_⟩
      simp only [World.setRow, Array.getElem?_modify]
      rw [if_neg (by omega)]
end Go.Proofs.Qxb6003407a
