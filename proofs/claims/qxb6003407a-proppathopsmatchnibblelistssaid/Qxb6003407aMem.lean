/-
  Bytes in memory: what the walks say of a slice of bytes. Of no program but for the type numbers 5 (uint8).
-/
import Derived.WalkKit
import Derived.Below
import Derived.WalkSmall
import Derived.Test.Qxb6003407aNib
namespace Go.Proofs.Qxb6003407a
open Go.RowKit

/-- The slice value v holds the bytes l: its length is theirs; where there is one, it leads to a row of cells that hold them. -/
def IsB (w : World) (v : Value) (l : List Int) : Prop :=
  ∃ a cap, v = .slice a l.length cap ∧ l.length ≤ cap ∧ cap ≤ maxLen ∧ Byt l ∧
    (0 < l.length → ∃ b off, a = some ⟨b, off, none⟩ ∧ ∀ i, i < l.length → w.cell? ⟨b, off + i, none⟩ = some (.int .u8 (l[i]?.getD 0)))

theorem cell_block_lt {w : World} {b o : Nat} {v : Value} (h : w.cell? ⟨b, o, none⟩ = some v) : b < w.heap.size := by
  rcases Nat.lt_or_ge b w.heap.size with hb | hb
  · exact hb
  · exfalso
    have : w.heap[b]? = none := Array.getElem?_eq_none hb
    simp [World.cell?, this] at h

theorem IsB.below {w w' : World} {v : Value} {l : List Int} (h : IsB w v l) (hb : Below w.heap.size w w') : IsB w' v l := by
  obtain ⟨a, cap, hv, h1, h2, h3, h4⟩ := h
  refine ⟨a, cap, hv, h1, h2, h3, fun hl => ?_⟩
  obtain ⟨b, off, ha, hc⟩ := h4 hl
  exact ⟨b, off, ha, fun i hi => (hb.cell (p := ⟨b, off + i, none⟩) (cell_block_lt (hc i hi))).trans (hc i hi)⟩

theorem IsB.byt {w : World} {v : Value} {l : List Int} (h : IsB w v l) : Byt l := by
  obtain ⟨a, cap, hv, h1, h2, h3, h4⟩ := h
  exact h3

theorem IsB.slice {w : World} {v : Value} {l : List Int} (h : IsB w v l) : ∃ a m c, v = .slice a m c := by
  obtain ⟨a, cap, hv, _⟩ := h
  exact ⟨a, _, cap, hv⟩

theorem isB_nil (w : World) : IsB w (.slice none 0 0) [] := ⟨none, 0, rfl, Nat.le_refl _, Nat.zero_le _, (fun _ hz => absurd hz (List.not_mem_nil)), (fun h => absurd h (Nat.lt_irrefl _))⟩

/-- Block B is a row of just these bytes, none of them frozen. -/
def Own (w : World) (B : Nat) (M : List Int) : Prop := w.heap[B]? = some (.cells (M.map fun z => Value.int .u8 z).toArray 5 (0, 0))

theorem Own.lt {w : World} {B : Nat} {M : List Int} (h : Own w B M) : B < w.heap.size := by
  rcases Nat.lt_or_ge B w.heap.size with hb | hb
  · exact hb
  · exfalso
    unfold Own at h
    rw [Array.getElem?_eq_none hb] at h
    cases h

theorem Own.cell {w : World} {B : Nat} {M : List Int} (h : Own w B M) {i : Nat} (hi : i < M.length) : w.cell? ⟨B, i, none⟩ = some (.int .u8 (M[i]?.getD 0)) := by
  unfold Own at h
  simp [World.cell?, h, hi]

theorem Own.frozen {w : World} {B : Nat} {M : List Int} (h : Own w B M) (i : Nat) : w.frozen? ⟨B, i, none⟩ = false := by
  unfold Own at h
  simp [World.frozen?, h]

theorem Own.set {w : World} {B : Nat} {M : List Int} (h : Own w B M) (k : Nat) (z : Int) : Own (w.setCell ⟨B, k, none⟩ (.int .u8 z)) B (M.set k z) := by
  have hlt := h.lt
  unfold Own at h ⊢
  simp only [World.setCell, Array.getElem?_modify, if_true]
  rw [h]
  simp [List.map_set]

theorem Own.of_block {w w' : World} {B : Nat} {M : List Int} (h : Own w B M) (e : w'.heap[B]? = w.heap[B]?) : Own w' B M := by
  unfold Own at h ⊢
  rw [e, h]

theorem Own.below {w w' : World} {B : Nat} {M : List Int} (h : Own w B M) (hb : Below w.heap.size w w') : Own w' B M := h.of_block (hb.block B h.lt)

theorem Own.alloc {w : World} {B : Nat} {M : List Int} (h : Own w B M) (o : Obj) : Own (w.alloc o) B M := h.of_block (Below.heap_alloc w o B h.lt)

theorem Own.isB {w : World} {B : Nat} {M : List Int} (h : Own w B M) (hm : M.length ≤ maxLen) (hb : Byt M) : IsB w (.slice (some ⟨B, 0, none⟩) M.length M.length) M :=
  ⟨_, _, rfl, Nat.le_refl _, hm, hb, fun _ => ⟨B, 0, rfl, fun i hi => by rw [Nat.zero_add]; exact h.cell hi⟩⟩

/-- A new row of noughts. -/
def zer (n : Nat) : Obj := .cells (Array.replicate n (Value.int .u8 0)) 5

theorem own_zer (w : World) (n : Nat) : Own (w.alloc (zer n)) w.heap.size (List.replicate n 0) := by
  unfold Own zer
  show (w.heap.push _)[w.heap.size]? = _
  rw [Array.getElem?_push, if_pos rfl]
  simp

/-- The row behind a store of its next element. -/
theorem Own.step {wr : World} {B k n : Nat} {N : Nat → Int} {z : Int} (h : Own wr B (tab (cut N k) n)) (hz : N k = z) : Own (wr.setCell ⟨B, k, none⟩ (.int .u8 z)) B (tab (cut N (k + 1)) n) := by
  subst hz
  rw [← tab_cut_succ]
  exact h.set k (N k)

/-- Old memory stands behind a store into a block of the call's own. -/
theorem below_set {B0 B : Nat} {w wr : World} (h : Below B0 w wr) (hB : B0 ≤ B) (k : Nat) (u : Value) : Below B0 w (wr.setCell ⟨B, k, none⟩ u) := h.setCell (p := ⟨B, k, none⟩) hB u

/-- Block b is a variable of the struct type 57 with these two cells. -/
def Box (w : World) (b : Nat) (x y : Value) : Prop := w.heap[b]? = some (.cells #[x, y] 57 (0, 0))

theorem Box.lt {w : World} {b : Nat} {x y : Value} (h : Box w b x y) : b < w.heap.size := by
  rcases Nat.lt_or_ge b w.heap.size with hb | hb
  · exact hb
  · exfalso
    unfold Box at h
    rw [Array.getElem?_eq_none hb] at h
    cases h
theorem Box.c0 {w : World} {b : Nat} {x y : Value} (h : Box w b x y) : w.cell? ⟨b, 0, none⟩ = some x := by
  unfold Box at h
  simp [World.cell?, h]
theorem Box.c1 {w : World} {b : Nat} {x y : Value} (h : Box w b x y) : w.cell? ⟨b, 1, none⟩ = some y := by
  unfold Box at h
  simp [World.cell?, h]
theorem Box.f {w : World} {b : Nat} {x y : Value} (h : Box w b x y) (o : Nat) : w.frozen? ⟨b, o, none⟩ = false := by
  unfold Box at h
  simp [World.frozen?, h]
theorem Box.of_block {w w' : World} {b : Nat} {x y : Value} (h : Box w b x y) (e : w'.heap[b]? = w.heap[b]?) : Box w' b x y := by
  unfold Box at h ⊢
  rw [e, h]
theorem Box.below {w w' : World} {b : Nat} {x y : Value} (h : Box w b x y) (hb : Below w.heap.size w w') : Box w' b x y := h.of_block (hb.block b h.lt)
theorem Box.grown {w w' : World} {b B : Nat} {x y : Value} (h : Box w b x y) (hg : w.grownBy w' (some B)) (hne : b ≠ B) : Box w' b x y := h.of_block (hg.block b h.lt (fun e => hne (Option.some.inj e)))
theorem box_new (w : World) (x y : Value) : Box (w.alloc (.cells #[x, y] 57)) w.heap.size x y := by
  unfold Box
  show (w.heap.push _)[w.heap.size]? = _
  rw [Array.getElem?_push, if_pos rfl]
theorem Box.alloc {w : World} {b : Nat} {x y : Value} (h : Box w b x y) (o : Obj) : Box (w.alloc o) b x y := h.of_block (Below.heap_alloc w o b h.lt)
theorem below_grown {B0 B : Nat} {w wr w' : World} (h : Below B0 w wr) (hB0 : B0 ≤ wr.heap.size) (hg : wr.grownBy w' (some B)) (hB : B0 ≤ B) : Below B0 w w' :=
  h.trans ⟨hg.os, hg.tape, hg.output, hg.size, fun k hk => hg.block k (by omega) (fun e => by have := Option.some.inj e; omega)⟩

theorem own_zer_at (w : World) (n B : Nat) (hB : w.heap.size = B) : Own (w.alloc (zer n)) B (List.replicate n 0) := by
  subst hB
  exact own_zer w n
theorem box_new_at (w : World) (x y : Value) (b : Nat) (hb : w.heap.size = b) : Box (w.alloc (.cells #[x, y] 57)) b x y := by
  subst hb
  exact box_new w x y
theorem Box.drew {w : World} {b : Nat} {x y : Value} (h : Box w b x y) : Box w.drew b x y := h
theorem Own.drew {w : World} {B : Nat} {M : List Int} (h : Own w B M) : Own w.drew B M := h
theorem Box.store {w : World} {b : Nat} {x y : Value} (h : Box w b x y) (x' y' : Value) : Box ((w.setCell ⟨b, 0, none⟩ x').setCell ⟨b, 1, none⟩ y') b x' y' := by
  unfold Box at h ⊢
  simp only [World.setCell, Array.getElem?_modify, if_true]
  rw [h]
  simp
theorem Own.other {w : World} {B b o : Nat} {M : List Int} {u : Value} (h : Own w B M) (hne : B ≠ b) : Own (w.setCell ⟨b, o, none⟩ u) B M := h.of_block (Below.heap_setCell w _ u B hne)

/-- What 'tail', 'join', 'extend' hand back: a path of n tokens in bytes of its own, the tokens N. -/
def Made (N : Nat → Int) (n : Nat) (w : World) (e : Ending) (w' : World) : Prop :=
  ∃ v' M x, e = .returned (.agg #[v', .int .i64 x]) ∧ x = (n : Int) ∧ IsB w' v' M ∧ (n + 1) / 2 ≤ M.length ∧ M.length ≤ 1048576 ∧ tab (nib M) n = tab N n ∧ Below w.heap.size w w'

theorem made_mk {N : Nat → Int} {n m B : Nat} {w w' : World} {x : Int} (hx : x = (n : Int)) (ho : Own w' B (pk N n m)) (hm : m = (n + 1) / 2) (hn : n ≤ 262144) (hN : ∀ i, 0 ≤ N i ∧ N i ≤ 15) (hb : Below w.heap.size w w') :
    Made N n w (.returned (.agg #[.slice (some ⟨B, 0, none⟩) m m, .int .i64 x])) w' := by
  have h1 := ho.isB (by rw [pk_length]; unfold maxLen; omega) (pk_byt hN n m)
  rw [pk_length] at h1
  exact ⟨_, pk N n m, x, rfl, hx, h1, by rw [pk_length]; omega, by rw [pk_length]; omega, tab_congr fun i hi => nib_pk hN hi (by omega), hb⟩

theorem ret_bool {a b : Bool} (h : a = b) : Ending.returned (.bool a) = .returned (.bool b) := by rw [h]
theorem ret_int {k : IntKind} {a b : Int} (h : a = b) : Ending.returned (.int k a) = .returned (.int k b) := by rw [h]

end Go.Proofs.Qxb6003407a
