/-
  'path.at', 'path.set' and what wraps them.
-/
import Derived.Test.Qxb6003407aRows
import Derived.Test.Qxb6003407aMem
namespace Go.Proofs.Qxb6003407a
open Go.RowKit

/-- 'path.at'. -/
theorem at_any (v : Value) (L : List Int) (n : Int) (i : Nat) (w : World) (h : IsB w v L) (hi : i / 2 < L.length) (hm0 : L.length ≤ 1048576) :
    Calls Try.prog 35 #[.agg #[v, .int .i64 n], .int .i64 i] w fun e w' => e = .returned (.int .u8 (nib L i)) ∧ Below w.heap.size w w' := by
  obtain ⟨a, c, rfl, hc, hm, hb, hr⟩ := h
  unfold maxLen at hm
  obtain ⟨b, off, rfl, hx⟩ := hr (by omega)
  have hz := hb.at (i / 2)
  have g := hx _ hi
  have HN : Hid (∀ z, z = L[i / 2]?.getD 0 → nib L i = if i % 2 = 0 then z / 16 else z % 16) := fun z hz => by subst hz; rfl
  obtain ⟨z, hzz⟩ : ∃ z, z = L[i / 2]?.getD 0 := ⟨_, rfl⟩
  rw [← hzz] at g hz
  have HZ : Hid (z = L[i / 2]?.getD 0) := hzz
  obtain ⟨hz0, hz1⟩ := hz
  have hbl := cell_block_lt g
  have i1 : ((i : Int) / 2) < (L.length : Int) := by omega
  clear hx hb hr hzz
  by_cases he : i % 2 = 0
  · have e1 : ((i : Int) % 2 == 0) = true := by simp; omega
    go_enter Try.func35, Try.ntmps35
    go_wp2
    go_ret
    exact ⟨ret_int (by rw [HN.out z HZ.out, if_pos he]), (Below.refl _ _).alloc (Nat.le_refl _) _⟩
  · have e1 : ((i : Int) % 2 == 0) = false := by simp; omega
    go_enter Try.func35, Try.ntmps35
    go_wp2
    go_ret
    exact ⟨ret_int (by rw [HN.out z HZ.out, if_neg he]), (Below.refl _ _).alloc (Nat.le_refl _) _⟩

/-- 'ZZPathAt'. -/
theorem zat_any (v : Value) (L : List Int) (n : Int) (i : Nat) (w : World) (h : IsB w v L) (hi : i / 2 < L.length) (hm0 : L.length ≤ 1048576) :
    Calls Try.prog 8 #[v, .int .i64 n, .int .i64 i] w fun e w' => e = .returned (.int .u8 (nib L i)) ∧ Below w.heap.size w w' := by
  have key := fun W (hW : IsB W v L) => at_any v L n i W hW hi hm0
  obtain ⟨a, c, hv, _⟩ := id h
  have H : Hid (∀ W, IsB W v L → Calls Try.prog 35 #[.agg #[v, .int .i64 n], .int .i64 i] W fun e w' => e = .returned (.int .u8 (nib L i)) ∧ Below W.heap.size W w') := key
  have HI : Hid (IsB w v L) := h
  clear key h
  subst hv
  go_enter Try.func8, Try.ntmps8
  go_wp2_with fail
  refine (H.out _ HI.out).mono ?_
  rintro e w' ⟨rfl, hb⟩
  go_wp2
  go_ret
  exact ⟨rfl, hb⟩

theorem or_low : ∀ h t : Fin 16, bits BinOp.or IntKind.u8 (16 * (h.val : Int)) (t.val : Int) = 16 * (h.val : Int) + (t.val : Int) := by decide +kernel
theorem or_high : ∀ t : Fin 16, bits BinOp.or IntKind.u8 0 ((t.val : Int) * 16) = 16 * (t.val : Int) := by decide +kernel
theorem or_low' {h t : Int} (h0 : 0 ≤ h) (h1 : h ≤ 15) (t0 : 0 ≤ t) (t1 : t ≤ 15) : bits BinOp.or IntKind.u8 (16 * h) t = 16 * h + t := by
  have := or_low ⟨h.toNat, by omega⟩ ⟨t.toNat, by omega⟩
  simp only [Int.toNat_of_nonneg h0, Int.toNat_of_nonneg t0] at this
  exact this
theorem or_high' {t : Int} (t0 : 0 ≤ t) (t1 : t ≤ 15) : bits BinOp.or IntKind.u8 0 (t * 16) = 16 * t := by
  have := or_high ⟨t.toNat, by omega⟩
  simp only [Int.toNat_of_nonneg t0] at this
  exact this

/-- 'path.set': the next token of a row that is being filled. -/
theorem set_any (B m cap : Nat) (N : Nat → Int) (hN : ∀ i, 0 ≤ N i ∧ N i ≤ 15) (n : Int) (j : Nat) (w : World) (h : Own w B (pk N j m)) (hj : j / 2 < m) (hm0 : m ≤ 1048576) :
    Calls Try.prog 51 #[.agg #[.slice (some ⟨B, 0, none⟩) m cap, .int .i64 n], .int .i64 j, .int .u8 (N j)] w fun e w' => e = .returned (.tuple #[]) ∧ Own w' B (pk N (j + 1) m) ∧ w.grownBy w' (some B) := by
  have hlt := h.lt
  have g := h.cell (i := j / 2) (by rw [pk_length]; exact hj)
  have gf := h.frozen (j / 2)
  have i1 : ((j : Int) / 2) < (m : Int) := by omega
  have hs := hN j
  have HP : Hid (∀ z, z = (if j % 2 = 0 then 16 * N j else 16 * N (j - 1) + N j) → Own (w.setCell ⟨B, j / 2, none⟩ (.int .u8 z)) B (pk N (j + 1) m)) := fun z hz => by
    subst hz
    rw [← pk_succ]
    exact h.set _ _
  have HN : Hid (∀ i, 0 ≤ N i ∧ N i ≤ 15) := hN
  obtain ⟨t, ht⟩ : ∃ t, t = N j := ⟨_, rfl⟩
  have grown : ∀ u o, w.grownBy ((w.setCell ⟨B, j / 2, none⟩ u).alloc o) (some B) := fun u o =>
    ⟨rfl, rfl, rfl, by simp [World.setCell], fun k hk hne => by
      rw [Below.heap_alloc _ _ _ (by simpa [World.setCell] using hk), Below.heap_setCell _ _ _ _ (fun e => hne (by rw [e]))]⟩
  have HG : Hid (∀ u o, w.grownBy ((w.setCell ⟨B, j / 2, none⟩ u).alloc o) (some B)) := grown
  by_cases he : j % 2 = 0
  · rw [pk_here_even hj he] at g
    have HT : Hid (bits BinOp.or IntKind.u8 0 (t * 16) = 16 * N j) := by rw [ht]; exact or_high' hs.1 hs.2
    rw [← ht] at hs ⊢
    obtain ⟨t0, t1⟩ := hs
    have e1 : ((j : Int) % 2 == 0) = true := by simp; omega
    clear h hN ht grown
    go_enter Try.func51, Try.ntmps51
    go_wp2
    go_end0
    exact ⟨rfl, (HP.out _ (by rw [if_pos he, HT.out])).alloc _, HG.out _ _⟩
  · rw [pk_here_odd hj (by omega)] at g
    have HT : Hid (bits BinOp.or IntKind.u8 (16 * N (j - 1)) t = 16 * N (j - 1) + N j) := by rw [ht]; exact or_low' (hN _).1 (hN _).2 hs.1 hs.2
    have hq := hN (j - 1)
    obtain ⟨q, hqq⟩ : ∃ q, q = N (j - 1) := ⟨_, rfl⟩
    rw [← hqq] at g HT hq
    rw [← ht] at hs ⊢
    obtain ⟨t0, t1⟩ := hs
    obtain ⟨q0, q1⟩ := hq
    have HQ : Hid (q = N (j - 1)) := hqq
    have e1 : ((j : Int) % 2 == 0) = false := by simp; omega
    clear h hN ht grown hqq
    go_enter Try.func51, Try.ntmps51
    go_wp2
    go_end0
    exact ⟨rfl, (HP.out _ (by rw [if_neg he, HT.out, HQ.out])).alloc _, HG.out _ _⟩

theorem at_int (v : Value) (L : List Int) (n x : Int) (i : Nat) (w : World) (hx : x = (i : Int)) (h : IsB w v L) (hi : i / 2 < L.length) (hm0 : L.length ≤ 1048576) :
    Calls Try.prog 35 #[.agg #[v, .int .i64 n], .int .i64 x] w fun e w' => e = .returned (.int .u8 (nib L i)) ∧ Below w.heap.size w w' := by
  subst hx
  exact at_any v L n i w h hi hm0
theorem set_int (B m cap : Nat) (N : Nat → Int) (hN : ∀ i, 0 ≤ N i ∧ N i ≤ 15) (n x t : Int) (j : Nat) (w : World) (hx : x = (j : Int)) (ht : t = N j) (h : Own w B (pk N j m)) (hj : j / 2 < m) (hm0 : m ≤ 1048576) :
    Calls Try.prog 51 #[.agg #[.slice (some ⟨B, 0, none⟩) m cap, .int .i64 n], .int .i64 x, .int .u8 t] w fun e w' => e = .returned (.tuple #[]) ∧ Own w' B (pk N (j + 1) m) ∧ w.grownBy w' (some B) := by
  subst hx; subst ht
  exact set_any B m cap N hN n j w h hj hm0
end Go.Proofs.Qxb6003407a
