/-
  'path.pre..', 'keyPath' and what wraps them.
-/
import Derived.Test.Qxb6003407aMem
import Derived.Test.Qxb6003407aRows
import Derived.Deep.QuietTactic
import Derived.BigQuiet
namespace Go.Proofs.Qxb6003407a
open Go.RowKit

theorem bcell {W w1 : World} (hb : Below W.heap.size W w1) : (∀ b o, b < W.heap.size → w1.cell? ⟨b, o, none⟩ = W.cell? ⟨b, o, none⟩) ∧ (∀ b o, b < W.heap.size → w1.frozen? ⟨b, o, none⟩ = W.frozen? ⟨b, o, none⟩) :=
  ⟨fun b o h => hb.cell (p := ⟨b, o, none⟩) h, fun b o h => hb.frozen (p := ⟨b, o, none⟩) h⟩

/-- A shorter slice at the same head. -/
theorem IsB.take {w : World} {a : Option Addr} {L : List Int} {cap : Nat} (h : IsB w (.slice a L.length cap) L) (k : Nat) (hk : k ≤ L.length) : IsB w (.slice a k cap) (L.take k) := by
  obtain ⟨a', cap', hv, h1, h2, h3, h4⟩ := h
  cases hv
  have hl : (L.take k).length = k := by simp; omega
  refine ⟨a, cap, by rw [hl], by omega, h2, fun z hz => h3 z (List.mem_of_mem_take hz), fun h0 => ?_⟩
  obtain ⟨b, off, ha, hc⟩ := h4 (by omega)
  refine ⟨b, off, ha, fun i hi => ?_⟩
  rw [hc i (by omega), List.getElem?_take_of_lt (by omega)]

theorem pre_any (v : Value) (L : List Int) (n : Int) (k : Nat) (w : World) (h : IsB w v L) (hk : (k + 1) / 2 ≤ L.length) (hL : L.length ≤ 1048576) :
    Calls Try.prog 36 #[.agg #[v, .int .i64 n], .int .i64 k] w fun e w' => ∃ v', e = .returned (.agg #[v', .int .i64 k]) ∧ IsB w' v' (L.take ((k + 1) / 2)) ∧ Below w.heap.size w w' := by
  obtain ⟨a, c, hv, hc, hm, hb, hr⟩ := id h
  subst hv
  have HT : Hid (IsB w (.slice a ((k + 1) / 2) c) (L.take ((k + 1) / 2))) := h.take _ hk
  unfold maxLen at hm
  clear hr hb h
  have i1 : ((k : Int) + 1) / 2 ≤ (c : Int) := by omega
  go_enter Try.func36, Try.ntmps36
  go_wp2
  refine bodyPost_ret (v := .agg #[.slice a ((k + 1) / 2) c, .int .i64 k]) (by simp [results, Try.results36, go_sem]) rfl ⟨_, rfl, HT.out.below ?_, ?_⟩
  · exact ((Below.refl _ _).alloc (Nat.le_refl _) _).alloc (by simp) _
  · exact ((Below.refl _ _).alloc (Nat.le_refl _) _).alloc (by simp) _

theorem keypath_any (v : Value) (L : List Int) (w : World) (h : IsB w v L) (hL : L.length ≤ 1048576) :
    Calls Try.prog 42 #[v] w fun e w' => e = .returned (.agg #[v, .int .i64 (2 * (L.length : Int))]) ∧ Below w.heap.size w w' := by
  obtain ⟨a, c, hv, hc, hm, hb, hr⟩ := id h
  subst hv
  unfold maxLen at hm
  clear hr hb h
  go_enter Try.func42, Try.ntmps42
  go_wp2
  exact bodyPost_ret (v := .agg #[.slice a L.length c, .int .i64 (2 * (L.length : Int))]) (by simp [results, Try.results42, go_sem]) rfl ⟨rfl, (Below.refl _ _).alloc (Nat.le_refl _) _⟩

/-- 'ZZPathPre..'. -/
theorem zpre_any (v : Value) (L : List Int) (n : Int) (k : Nat) (w : World) (h : IsB w v L) (hk : (k + 1) / 2 ≤ L.length) (hL : L.length ≤ 1048576) :
    Calls Try.prog 9 #[v, .int .i64 n, .int .i64 k] w fun e w' => ∃ v', e = .returned (.tuple #[v', .int .i64 k]) ∧ IsB w' v' (L.take ((k + 1) / 2)) ∧ Below w.heap.size w w' := by
  have H : Hid (∀ W, IsB W v L → Calls Try.prog 36 #[.agg #[v, .int .i64 n], .int .i64 k] W fun e w' => ∃ v', e = .returned (.agg #[v', .int .i64 k]) ∧ IsB w' v' (L.take ((k + 1) / 2)) ∧ Below W.heap.size W w') := fun W hW => pre_any v L n k W hW hk hL
  have HI : Hid (IsB w v L) := h
  obtain ⟨a, c, hv, _⟩ := id h
  clear h
  subst hv
  go_enter Try.func9, Try.ntmps9
  go_wp2_with fail
  refine (H.out _ HI.out).mono ?_
  rintro e w1 ⟨v', rfl, hI, hb⟩
  have HI1 : Hid (IsB w1 v' (L.take ((k + 1) / 2))) := hI
  have HB1 : Hid (Below w.heap.size w w1) := hb
  obtain ⟨a', m', c', hv'⟩ := hI.slice
  clear hI hb
  rw [hv']
  rw [hv'] at HI1
  clear hv'
  go_wp2
  go_quiet (fail)
  go_wp2
  go_ret2
  refine ⟨_, rfl, HI1.out.below ?_, ?_⟩
  · exact below_drewN ((Below.refl _ _).alloc (Nat.le_refl _) _) _
  · exact HB1.out.trans (below_drewN ((Below.refl _ _).alloc HB1.out.size _) _)

/-- 'ZZKeyPath'. -/
theorem zkeypath_any (v : Value) (L : List Int) (w : World) (h : IsB w v L) (hL : L.length ≤ 1048576) :
    Calls Try.prog 19 #[v] w fun e w' => e = .returned (.tuple #[v, .int .i64 (2 * (L.length : Int))]) ∧ Below w.heap.size w w' := by
  have H : Hid (∀ W, IsB W v L → Calls Try.prog 42 #[v] W fun e w' => e = .returned (.agg #[v, .int .i64 (2 * (L.length : Int))]) ∧ Below W.heap.size W w') := fun W hW => keypath_any v L W hW hL
  have HI : Hid (IsB w v L) := h
  obtain ⟨a, c, hv, _⟩ := id h
  clear h
  subst hv
  go_enter Try.func19, Try.ntmps19
  go_wp2_with fail
  refine (H.out _ HI.out).mono ?_
  rintro e w1 ⟨rfl, hb⟩
  have HB1 : Hid (Below w.heap.size w w1) := hb
  clear hb
  go_wp2
  go_quiet (fail)
  go_wp2
  go_ret2
  exact ⟨rfl, HB1.out.trans (below_drewN ((Below.refl _ _).alloc HB1.out.size _) _)⟩
end Go.Proofs.Qxb6003407a
