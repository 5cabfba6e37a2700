/-
  Contracts in the form in which the law's own walk meets them.
-/
import Derived.Test.Qxb6003407aCtx
import Derived.Test.Qxb6003407aExt
import Derived.Test.Qxb6003407aEqp
import Derived.Test.Qxb6003407aCat
import Derived.Test.Qxb6003407aKey
import Derived.Test.Qxb6003407aPre
namespace Go.Proofs.Qxb6003407a
open Go.RowKit

theorem hid_mk {p : Prop} (h : p) : Hid p := h

theorem read_int (v : Value) (L : List Int) (n : Nat) (x : Int) (w : World) (hx : x = (n : Int)) (h : IsB w v L) (hn : n ≤ 262144) (hl : (n + 1) / 2 ≤ L.length) :
    Calls Try.prog 10 #[v, .int .i64 x] w fun e w' => ∃ v', e = .returned (.tuple #[v', .bool true]) ∧ IsB w' v' (tab (nib L) n) ∧ Below w.heap.size w w' := by
  subst hx
  exact read_ok v L n w h hn hl

/-- 'c2Eq' at two rows of the same bytes. -/
theorem eq_same (v1 v2 : Value) (l1 l2 : List Int) (w : World) (h1 : IsB w v1 l1) (h2 : IsB w v2 l2) (he : l1 = l2) :
    Calls Try.prog 11 #[v1, v2] w fun e w' => e = .returned (.bool true) ∧ Below w.heap.size w w' := by
  subst he
  refine (eq_any v1 v2 l1 l1 w h1 h2).mono ?_
  rintro e w' ⟨rfl, hb⟩
  exact ⟨ret_bool (by simp), hb⟩

/-- 'ZZPathEqual' at bytes that hold the tokens X and Y. -/
theorem zequal_is (b : Bool) (vp vq : Value) (P Q X Y : List Int) (w : World) (hp : IsB w vp P) (hq : IsB w vq Q) (hX : HoldsTok X P) (hY : HoldsTok Y Q) (hP : P.length ≤ 1048576) (hQ : Q.length ≤ 1048576) (hp2 : X.length ≤ 65536) (hq2 : Y.length ≤ 65536) (hb : b = decide (X = Y)) :
    Calls Try.prog 18 #[vp, .int .i64 (X.length : Int), vq, .int .i64 (Y.length : Int)] w fun e w' => e = .returned (.bool b) ∧ Below w.heap.size w w' := by
  refine (zequal_any vp vq P Q X.length Y.length w hp hq hX.1 hY.1 hP hQ hp2 hq2).mono ?_
  rintro e w' ⟨rfl, hbl⟩
  exact ⟨ret_bool (by rw [hX.2, hY.2, hb]), hbl⟩

/-- 'c2Eq', its answer named. -/
theorem eq_is (b : Bool) (v1 v2 : Value) (l1 l2 : List Int) (w : World) (h1 : IsB w v1 l1) (h2 : IsB w v2 l2) (hb : b = decide (l1 = l2)) :
    Calls Try.prog 11 #[v1, v2] w fun e w' => e = .returned (.bool b) ∧ Below w.heap.size w w' := by
  subst hb
  exact eq_any v1 v2 l1 l2 w h1 h2

/-- 'ZZCommonPrefix' at bytes that hold the tokens X and Y. -/
theorem zcommon_is (r : Nat) (vp vq : Value) (P Q X Y : List Int) (w : World) (hp : IsB w vp P) (hq : IsB w vq Q) (hX : HoldsTok X P) (hY : HoldsTok Y Q) (hP : P.length ≤ 1048576) (hQ : Q.length ≤ 1048576) (hp2 : X.length ≤ 65536) (hq2 : Y.length ≤ 65536) (hr : IsLcp X Y r) :
    Calls Try.prog 17 #[vp, .int .i64 (X.length : Int), vq, .int .i64 (Y.length : Int)] w fun e w' => e = .returned (.int .i64 r) ∧ Below w.heap.size w w' := by
  refine (zcommon_any vp vq P Q X.length Y.length w hp hq hX.1 hY.1 hP hQ hp2 hq2).mono ?_
  rintro e w' ⟨s, rfl, hs, hbl⟩
  rw [hX.2, hY.2] at hs
  exact ⟨ret_int (by rw [hs.unique hr]), hbl⟩

theorem isLcp_self (A : List Int) : IsLcp A A A.length := ⟨Nat.le_refl _, Nat.le_refl _, fun _ _ => rfl, fun h => absurd h (Nat.lt_irrefl _)⟩

theorem HoldsTok.at {X P : List Int} (h : HoldsTok X P) {i : Nat} (hi : i < X.length) : nib P i = X[i]?.getD 0 := by
  have := tab_at (nib P) hi
  rw [h.2] at this
  exact this.symm

theorem cat_tokens {X Y P Q : List Int} (hX : HoldsTok X P) (hY : HoldsTok Y Q) : tab (catN P Q X.length) (X.length + Y.length) = X ++ Y := by
  symm
  refine eq_tab (by simp) fun i hi => ?_
  unfold catN
  by_cases h : i < X.length
  · rw [if_pos h, hX.at h, List.getElem?_append_left h]
  · rw [if_neg h, hY.at (by omega), List.getElem?_append_right (by omega)]

theorem ext_tokens {X P : List Int} {t : Int} (hX : HoldsTok X P) : tab (catN P [t * 16] X.length) (X.length + 1) = X ++ [t] := by
  symm
  refine eq_tab (by simp) fun i hi => ?_
  unfold catN
  by_cases h : i < X.length
  · rw [if_pos h, hX.at h, List.getElem?_append_left h]
  · obtain rfl : i = X.length := by omega
    rw [if_neg h, List.getElem?_append_right (by omega), Nat.sub_self, nib_even (by omega)]
    show t = t * 16 / 16
    omega

/-- 'ZZJoin' at bytes that hold the tokens X and Y: bytes that hold X, then Y. -/
theorem zjoin_is (vp vq : Value) (P Q X Y : List Int) (w : World) (hp : IsB w vp P) (hq : IsB w vq Q) (hX : HoldsTok X P) (hY : HoldsTok Y Q) (hP : P.length ≤ 1048576) (hQ : Q.length ≤ 1048576) (hp2 : X.length ≤ 65536) (hq2 : Y.length ≤ 65536) :
    Calls Try.prog 13 #[vp, .int .i64 (X.length : Int), vq, .int .i64 (Y.length : Int)] w fun e w' => ∃ v' J, e = .returned (.tuple #[v', .int .i64 ((X.length + Y.length : Nat) : Int)]) ∧ IsB w' v' J ∧ (X.length + Y.length + 1) / 2 ≤ J.length ∧ tab (nib J) (X.length + Y.length) = X ++ Y ∧ Below w.heap.size w w' := by
  refine (zjoin_any vp vq P Q X.length Y.length w hp hq hX.1 hY.1 hP hQ hp2 hq2).mono ?_
  rintro e w' ⟨v', J, rfl, hI, hl, _, ht, hb⟩
  exact ⟨v', J, rfl, hI, hl, ht.trans (cat_tokens hX hY), hb⟩

/-- 'ZZPathExtend' at bytes that hold the tokens X: bytes that hold X, then t. -/
theorem zextend_is (vp : Value) (P X : List Int) (t : Int) (w : World) (hp : IsB w vp P) (hX : HoldsTok X P) (hP : P.length ≤ 1048576) (hp2 : X.length ≤ 65536) (t0 : 0 ≤ t) (t1 : t ≤ 15) :
    Calls Try.prog 15 #[vp, .int .i64 (X.length : Int), .int .u8 t] w fun e w' => ∃ v' J, e = .returned (.tuple #[v', .int .i64 ((X.length + 1 : Nat) : Int)]) ∧ IsB w' v' J ∧ (X.length + 1 + 1) / 2 ≤ J.length ∧ tab (nib J) (X.length + 1) = X ++ [t] ∧ Below w.heap.size w w' := by
  refine (zextend_any vp P X.length t w hp hX.1 hP hp2 t0 t1).mono ?_
  rintro e w' ⟨v', J, rfl, hI, hl, _, ht, hb⟩
  exact ⟨v', J, rfl, hI, hl, ht.trans (ext_tokens hX), hb⟩

theorem pre_tokens {X P : List Int} (hX : HoldsTok X P) {k : Nat} (hk : k ≤ X.length) : tab (nib (P.take ((k + 1) / 2))) k = X.take k := by
  symm
  refine eq_tab (by simp; omega) fun i hi => ?_
  rw [List.getElem?_take_of_lt hi, ← hX.at (by omega)]
  unfold nib
  rw [List.getElem?_take_of_lt (by omega)]

theorem tail_tokens {X P : List Int} (hX : HoldsTok X P) {k : Nat} (hk : k ≤ X.length) : tab (fun j => nib P (k + j)) (X.length - k) = X.drop k := by
  symm
  refine eq_tab (by simp) fun i hi => ?_
  rw [List.getElem?_drop, ← hX.at (by omega)]

/-- 'ZZPathTail' at bytes that hold the tokens X. -/
theorem ztail_is (v : Value) (P X : List Int) (k : Nat) (w : World) (h : IsB w v P) (hX : HoldsTok X P) (hk : k ≤ X.length) (hP : P.length ≤ 1048576) (hp2 : X.length ≤ 65536) :
    Calls Try.prog 12 #[v, .int .i64 (X.length : Int), .int .i64 k] w fun e w' => ∃ v' J x, e = .returned (.tuple #[v', .int .i64 x]) ∧ x = ((X.length - k : Nat) : Int) ∧ IsB w' v' J ∧ (X.length - k + 1) / 2 ≤ J.length ∧ tab (nib J) (X.length - k) = X.drop k ∧ Below w.heap.size w w' := by
  refine (ztail_any v P X.length k w h hk hX.1 hP hp2).mono ?_
  rintro e w' ⟨v', J, rfl, hI, hl, _, ht, hb⟩
  exact ⟨v', J, _, rfl, rfl, hI, hl, ht.trans (tail_tokens hX hk), hb⟩

/-- The slice from place k on. -/
theorem IsB.drop {w : World} {a a' : Option Addr} {L : List Int} {n c m c' : Nat} (h : IsB w (.slice a n c) L) (k : Nat) (hk : k ≤ L.length) (hm : m = L.length - k) (hc : m ≤ c') (hc' : c' ≤ maxLen) (ha : ∀ b off, k < L.length → a = some ⟨b, off, none⟩ → a' = some ⟨b, off + k, none⟩) : IsB w (.slice a' m c') (L.drop k) := by
  obtain ⟨a1, cap, hv, h1, h2, h3, h4⟩ := h
  cases hv
  have hl : (L.drop k).length = m := by simp; omega
  refine ⟨a', c', by rw [hl], by omega, hc', fun z hz => h3 z (List.mem_of_mem_drop hz), fun h0 => ?_⟩
  obtain ⟨b, off, hab, hcell⟩ := h4 (by omega)
  refine ⟨b, off + k, ha b off (by omega) hab, fun i hi => ?_⟩
  rw [Nat.add_assoc, hcell (k + i) (by omega), List.getElem?_drop]

end Go.Proofs.Qxb6003407a
