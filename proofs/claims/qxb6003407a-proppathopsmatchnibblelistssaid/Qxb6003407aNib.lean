/-
  Nibbles: the plain mathematics. No Go in sight.
-/
import Derived.KernelRfl
namespace Go.Proofs.Qxb6003407a

/-- The list of f 0 .. f (n-1). -/
def tab (f : Nat → Int) (n : Nat) : List Int := (List.range n).map f

theorem tab_length (f : Nat → Int) (n : Nat) : (tab f n).length = n := by simp [tab]
theorem tab_at (f : Nat → Int) {n i : Nat} (h : i < n) : (tab f n)[i]?.getD 0 = f i := by simp [tab, h]
theorem tab_congr {f g : Nat → Int} {n : Nat} (h : ∀ i, i < n → f i = g i) : tab f n = tab g n := by
  unfold tab
  exact List.map_congr_left fun i hi => h i (List.mem_range.1 hi)
theorem tab_self (l : List Int) : tab (fun i => l[i]?.getD 0) l.length = l := by
  apply List.ext_getElem?
  intro i
  by_cases h : i < l.length
  · simp [tab, h]
  · simp [tab, h]
theorem eq_tab {l : List Int} {f : Nat → Int} {n : Nat} (hl : l.length = n) (h : ∀ i, i < n → l[i]?.getD 0 = f i) : l = tab f n := by
  subst hl
  rw [← tab_self l, tab_length]
  exact tab_congr h
theorem tab_eq_iff {l : List Int} {f : Nat → Int} {n : Nat} : l = tab f n ↔ l.length = n ∧ ∀ i, i < n → l[i]?.getD 0 = f i := by
  constructor
  · intro h
    subst h
    exact ⟨tab_length f n, fun i hi => tab_at f hi⟩
  · rintro ⟨h1, h2⟩
    exact eq_tab h1 h2

/-- N up to place j, noughts behind it. -/
def cut (N : Nat → Int) (j i : Nat) : Int := if i < j then N i else 0

theorem cut_lt {N : Nat → Int} {j i : Nat} (h : i < j) : cut N j i = N i := by unfold cut; rw [if_pos h]
theorem cut_ge {N : Nat → Int} {j i : Nat} (h : j ≤ i) : cut N j i = 0 := by unfold cut; rw [if_neg (by omega)]

theorem tab_cut_all (N : Nat → Int) (n : Nat) : tab (cut N n) n = tab N n := tab_congr fun _ hi => cut_lt hi
theorem tab_cut_zero (N : Nat → Int) (n : Nat) : tab (cut N 0) n = List.replicate n 0 := by
  apply List.ext_getElem?
  intro i
  by_cases h : i < n
  · simp [tab, h, cut]
  · simp [tab, h]
theorem tab_set (f : Nat → Int) (n k : Nat) (z : Int) : (tab f n).set k z = tab (fun i => if i = k then z else f i) n := by
  apply List.ext_getElem?
  intro i
  by_cases h : i < n
  · by_cases hk : k = i
    · subst hk; simp [tab, h]
    · have : ¬ i = k := fun e => hk e.symm
      simp [tab, h, hk, this]
  · by_cases hk : k = i
    · subst hk; simp [tab, h]
    · simp [tab, h]
theorem tab_cut_succ (N : Nat → Int) (n k : Nat) : (tab (cut N k) n).set k (N k) = tab (cut N (k + 1)) n := by
  rw [tab_set]
  refine tab_congr fun i _ => ?_
  by_cases h : i = k
  · subst h; rw [if_pos rfl, cut_lt (by omega)]
  · rw [if_neg h]
    by_cases h2 : i < k
    · rw [cut_lt h2, cut_lt (by omega)]
    · rw [cut_ge (by omega), cut_ge (by omega)]

/-- The token at place i of the bytes L: two to a byte, the high half first. -/
def nib (L : List Int) (i : Nat) : Int := if i % 2 = 0 then (L[i / 2]?.getD 0) / 16 else (L[i / 2]?.getD 0) % 16

theorem nib_even {L : List Int} {i : Nat} (h : i % 2 = 0) : nib L i = (L[i / 2]?.getD 0) / 16 := by unfold nib; rw [if_pos h]
theorem nib_odd {L : List Int} {i : Nat} (h : i % 2 = 1) : nib L i = (L[i / 2]?.getD 0) % 16 := by unfold nib; rw [if_neg (by omega)]

/-- Every number is a byte. -/
def Byt (l : List Int) : Prop := ∀ z ∈ l, 0 ≤ z ∧ z ≤ 255

theorem Byt.at {l : List Int} (h : Byt l) (i : Nat) : 0 ≤ l[i]?.getD 0 ∧ l[i]?.getD 0 ≤ 255 := by
  by_cases hi : i < l.length
  · rw [List.getElem?_eq_getElem hi]
    exact h _ (List.getElem_mem hi)
  · rw [List.getElem?_eq_none (by omega)]
    simp
theorem byt_tab {f : Nat → Int} {n : Nat} (h : ∀ i, i < n → 0 ≤ f i ∧ f i ≤ 255) : Byt (tab f n) := by
  intro z hz
  simp only [tab, List.mem_map, List.mem_range] at hz
  obtain ⟨i, hi, rfl⟩ := hz
  exact h i hi
theorem byt_of_at {l : List Int} (h : ∀ i, i < l.length → 0 ≤ l[i]?.getD 0 ∧ l[i]?.getD 0 ≤ 255) : Byt l := by
  rw [← tab_self l]
  exact byt_tab h

theorem nib_bd {L : List Int} (h : Byt L) (i : Nat) : 0 ≤ nib L i ∧ nib L i ≤ 15 := by
  have := h.at (i / 2)
  unfold nib
  split <;> omega

/-- The bytes that hold the first j tokens of N, noughts behind them. -/
def pk (N : Nat → Int) (j m : Nat) : List Int := tab (fun k => 16 * cut N j (2 * k) + cut N j (2 * k + 1)) m

theorem pk_length (N : Nat → Int) (j m : Nat) : (pk N j m).length = m := tab_length _ _
theorem pk_zero (N : Nat → Int) (m : Nat) : pk N 0 m = List.replicate m 0 := by
  rw [← tab_cut_zero N m]
  exact tab_congr fun k _ => by rw [cut_ge (by omega), cut_ge (by omega), cut_ge (by omega)]; rfl
theorem pk_at {N : Nat → Int} {j m k : Nat} (h : k < m) : (pk N j m)[k]?.getD 0 = 16 * cut N j (2 * k) + cut N j (2 * k + 1) := tab_at _ h
theorem pk_byt {N : Nat → Int} (hN : ∀ i, 0 ≤ N i ∧ N i ≤ 15) (j m : Nat) : Byt (pk N j m) := by
  refine byt_tab fun k _ => ?_
  have hc : ∀ i, 0 ≤ cut N j i ∧ cut N j i ≤ 15 := fun i => by
    unfold cut
    split
    · exact hN i
    · omega
  have h1 := hc (2 * k)
  have h2 := hc (2 * k + 1)
  omega

/-- What the store at place j finds there. -/
theorem pk_here_even {N : Nat → Int} {j m : Nat} (h : j / 2 < m) (he : j % 2 = 0) : (pk N j m)[j / 2]?.getD 0 = 0 := by
  rw [pk_at h, cut_ge (by omega), cut_ge (by omega)]; rfl
theorem pk_here_odd {N : Nat → Int} {j m : Nat} (h : j / 2 < m) (he : j % 2 = 1) : (pk N j m)[j / 2]?.getD 0 = 16 * N (j - 1) := by
  rw [pk_at h, cut_lt (by omega), cut_ge (by omega), show 2 * (j / 2) = j - 1 by omega]; omega

theorem pk_succ {N : Nat → Int} {j m : Nat} : (pk N j m).set (j / 2) (if j % 2 = 0 then 16 * N j else 16 * N (j - 1) + N j) = pk N (j + 1) m := by
  unfold pk
  rw [tab_set]
  refine tab_congr fun k _ => ?_
  by_cases h : k = j / 2
  · rw [if_pos h]
    by_cases he : j % 2 = 0
    · rw [if_pos he, cut_lt (by omega), cut_ge (by omega), show 2 * k = j by omega]; omega
    · rw [if_neg he, cut_lt (by omega), cut_lt (by omega), show 2 * k = j - 1 by omega, show j - 1 + 1 = j by omega]
  · rw [if_neg h]
    have e : ∀ i, i / 2 ≠ j / 2 → cut N (j + 1) i = cut N j i := fun i hi => by
      by_cases h2 : i < j
      · rw [cut_lt h2, cut_lt (by omega)]
      · rw [cut_ge (by omega), cut_ge (by omega)]
    rw [e _ (by omega), e _ (by omega)]

/-- Reading the tokens back. -/
theorem nib_pk {N : Nat → Int} (hN : ∀ i, 0 ≤ N i ∧ N i ≤ 15) {n m i : Nat} (hi : i < n) (hm : (n + 1) / 2 ≤ m) : nib (pk N n m) i = N i := by
  have hc : ∀ i, 0 ≤ cut N n i ∧ cut N n i ≤ 15 := fun i => by
    unfold cut
    split
    · exact hN i
    · omega
  have h1 := hc (2 * (i / 2))
  have h2 := hc (2 * (i / 2) + 1)
  by_cases he : i % 2 = 0
  · rw [nib_even he, pk_at (by omega)]
    have e : cut N n (2 * (i / 2)) = N i := by rw [show 2 * (i / 2) = i by omega, cut_lt hi]
    omega
  · rw [nib_odd (by omega), pk_at (by omega)]
    have e : cut N n (2 * (i / 2) + 1) = N i := by rw [show 2 * (i / 2) + 1 = i by omega, cut_lt hi]
    omega

end Go.Proofs.Qxb6003407a
