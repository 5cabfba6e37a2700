/-
  The law's own walk, from its beginning.
-/
import Derived.Test.Qxb6003407aP3
namespace Go.Proofs.Qxb6003407a
open Go.RowKit

set_option maxRecDepth 1000000 in
set_option maxHeartbeats 2000000 in
/-- THE WALK: whatever the five slices of bytes and the token, the law answers true, and nothing that was there has turned. -/
theorem main_any (v0 v1 v2 v3 v4 : Value) (A L B M K : List Int) (t : Int) (w : World) (h0 : IsB w v0 A) (h1 : IsB w v1 L) (h2 : IsB w v2 B) (h3 : IsB w v3 M) (h4 : IsB w v4 K) (t0 : 0 ≤ t) :
    Calls Try.prog 3 #[v0, v1, v2, v3, v4, .int .u8 t] w fun e w' => e = .returned (.bool true) ∧ Below w.heap.size w w' := by
  have HB6 : Hid (Calls Try.prog 6 #[v0, v1, v2, v3, v4, .int .u8 t] w fun e w' => ∃ r : Bool, e = .returned (.bool r) ∧ w' = w) := bytes_any v0 v1 v2 v3 v4 A L B M K t w h0 h1 h2 h3 h4
  have HO7 : Hid (Calls Try.prog 7 #[v0, v1, v2, v3, v4, .int .u8 t] w fun e w' => Says false (Inside A L B M K t) w e w') := outside_any v0 v1 v2 v3 v4 A L B M K t w h0 h1 h2 h3 h4
  have HCX : Hid (∀ W, Inside A L B M K t → Below w.heap.size w W → Ctx w W A L B M K t v0 v1 v2 v3 v4) := fun W hi hb => ⟨h0.below hb, h1.below hb, h2.below hb, h3.below hb, h4.below hb, hi, t0, hb⟩
  obtain ⟨a0, n0, c0, hv0⟩ := h0.slice
  obtain ⟨a1, n1, c1, hv1⟩ := h1.slice
  obtain ⟨a2, n2, c2, hv2⟩ := h2.slice
  obtain ⟨a3, n3, c3, hv3⟩ := h3.slice
  obtain ⟨a4, n4, c4, hv4⟩ := h4.slice
  clear h0 h1 h2 h3 h4
  subst hv0; subst hv1; subst hv2; subst hv3; subst hv4
  go_enter Try.func3, Try.ntmps3
  apply wp_seq_k
  intro K0 hK0
  have HK0 := hid_mk hK0
  clear hK0
  go_wp2
  refine HK0.out _ _ ?_
  clear HK0
  apply wp_seq_k
  intro K1 hK1
  have HK1 := hid_mk hK1
  clear hK1
  go_wp2_with fail
  refine HB6.out.mono ?_
  rintro e w' ⟨r, rfl, rfl⟩
  clear HB6
  cases r with
  | false =>
    go_wp2
    go_ret
    exact ⟨rfl, Below.refl _ _⟩
  | true =>
    go_wp2
    refine HK1.out _ _ ?_
    clear HK1
    apply wp_seq_k
    intro K2 hK2
    have HK2 := hid_mk hK2
    clear hK2
    go_wp2_with fail
    refine HO7.out.mono ?_
    rintro e w1 ⟨r, rfl, hr, hb1⟩
    clear HO7
    cases r with
    | true =>
      clear hr
      go_wp2
      go_ret
      exact ⟨rfl, hb1⟩
    | false =>
      have HC1 := hid_mk (HCX.out _ (hr rfl) hb1)
      clear hr hb1
      go_wp2
      refine HK2.out _ _ ?_
      exact P3 _ _ A L B M K t _ _ _ _ _ _ _ _ _ _ _ _ _ _ _ _ _ _ _ _ _ _ _ _ _ _ _ _ _ _ _ _ _ _ _ _ _ _ _ _ _ _ _ _ _ _ _ _ _ _ _ _ _ _ _ _ _ _ _ _ _ _ _ _ _ _ _ _ _ _ _ _ _ _ _ _ _ _ _ _ _ _ _ _ _ _ _ _ _ _ _ _ _ _ _ _ _ _ _ _ _ _ _ _ _ _ _ _ _ _ _ _ _ _ _ _ _ _ _ _ _ _ _ _ _ _ _ _ _ _ _ _ _ _ _ _ _ _ _ _ _ _ _ _ _ _ _ _ _ _ _ _ _ _ _ _ _ _ _ _ _ _ _ _ _ _ _ _ _ _ _ _ _ _ _ _ _ _ _ _ _ _ _ _ _ _ _ _ _ _ _ _ _ _ _ _ _ _ _ _ _ _ _ _ _ _ _ _ _ _ _ _ _ _ _ _ _ _ _ _ _ _ _ _ _ _ _ _ _ _ _ _ _ _ _ _ _ _ _ _ _ _ _ _ _ _ _ _ _ _ _ _ _ _ _ _ _ _ _ _ _ _ _ _ _ _ _ _ _ _ _ _ _ _ _ _ _ _ _ _ _ _ _ _ _ _ _ _ _ _ _ _ _ _ _ _ _ _ _ _ _ HC1.out

end Go.Proofs.Qxb6003407a
