/-
  The plain law of 'FnClassStringNamesEachClassOnce': decimal numerals, read back; no Go in sight.
-/
import Derived.Lib.ItoaNum
import Derived.Lib.ItoaMem
namespace Go.Proofs.Qxb6003358aDoor.Plain
open Go.Lib

/-- The number that a row of decimal digits spells. -/
def val (l : List UInt8) : Nat := l.foldl (fun v c => v * 10 + (c.toNat - 48)) 0

theorem val_snoc (l : List UInt8) (c : UInt8) : val (l ++ [c]) = val l * 10 + (c.toNat - 48) := by
  simp [val]

theorem digit_nat (d : Nat) (h : d < 10) : (UInt8.ofNat (48 + d)).toNat = 48 + d := by
  rw [UInt8.toNat_ofNat']
  omega

theorem val_dec (n : Nat) : val (decDigits n) = n := by
  induction n using Nat.strongRecOn with
  | _ n ih =>
    by_cases h : n < 10
    · rw [decDigits, dif_pos h]
      simp only [val, List.foldl_cons, List.foldl_nil]
      rw [digit_nat n h]
      omega
    · rw [decDigits, dif_neg h, val_snoc, ih (n / 10) (by omega), digit_nat _ (by omega)]
      omega

theorem mem_dec (n : Nat) : ∀ c ∈ decDigits n, 48 ≤ c.toNat ∧ c.toNat ≤ 57 := by
  induction n using Nat.strongRecOn with
  | _ n ih =>
    by_cases h : n < 10
    · rw [decDigits, dif_pos h]
      intro c hc
      simp only [List.mem_singleton] at hc
      subst hc
      rw [digit_nat n h]
      omega
    · rw [decDigits, dif_neg h]
      intro c hc
      rcases List.mem_append.1 hc with hc | hc
      · exact ih (n / 10) (by omega) c hc
      · simp only [List.mem_singleton] at hc
        subst hc
        rw [digit_nat _ (by omega)]
        omega

theorem dec_pos (n : Nat) : 1 ≤ (decDigits n).length := by rw [decDigits_length]; exact nDigits_pos n

theorem dec_short {n : Nat} (h : n ≤ 65535) : (decDigits n).length ≤ 5 := by
  rw [decDigits_length]
  by_cases h1 : n < 10
  · rw [nDigits_small h1]; omega
  rw [nDigits_big h1]
  by_cases h2 : n / 10 < 10
  · rw [nDigits_small h2]; omega
  rw [nDigits_big h2]
  by_cases h3 : n / 10 / 10 < 10
  · rw [nDigits_small h3]; omega
  rw [nDigits_big h3]
  by_cases h4 : n / 10 / 10 / 10 < 10
  · rw [nDigits_small h4]; omega
  rw [nDigits_big h4, nDigits_small (by omega)]
  omega

/-- No leading nought but for 0 itself: the first digit of a number that is not 0 is not '0'. -/
theorem dec_head (n : Nat) (h0 : n ≠ 0) : ∃ c l, decDigits n = c :: l ∧ 49 ≤ c.toNat := by
  induction n using Nat.strongRecOn with
  | _ n ih =>
    by_cases h : n < 10
    · refine ⟨UInt8.ofNat (48 + n), [], by rw [decDigits, dif_pos h], ?_⟩
      rw [digit_nat n h]
      omega
    · obtain ⟨c, l, e, hc⟩ := ih (n / 10) (by omega) (by omega)
      exact ⟨c, l ++ [UInt8.ofNat (48 + n % 10)], by rw [decDigits, dif_neg h, e]; rfl, hc⟩

theorem dec_head_long {n : Nat} (h : 1 < (decDigits n).length) : ∃ c l, decDigits n = c :: l ∧ 49 ≤ c.toNat := by
  refine dec_head n ?_
  intro e
  subst e
  rw [decDigits_one (by omega)] at h
  simp at h

/-- What a row of at most five digits spells stays small. -/
theorem val_lt (l : List UInt8) (h : ∀ c ∈ l, c.toNat ≤ 57) : val l < 10 ^ l.length := by
  suffices H : ∀ (l : List UInt8), (∀ c ∈ l, c.toNat ≤ 57) → ∀ v m : Nat, v < 10 ^ m → l.foldl (fun v c => v * 10 + (c.toNat - 48)) v < 10 ^ (m + l.length) by
    have := H l h 0 0 (by simp)
    simpa [val] using this
  intro l
  induction l with
  | nil => intro _ v m hv; simpa using hv
  | cons c l ih =>
    intro hl v m hv
    simp only [List.foldl_cons, List.length_cons]
    have hc : c.toNat ≤ 57 := hl c (by simp)
    have := ih (fun x hx => hl x (by simp [hx])) (v * 10 + (c.toNat - 48)) (m + 1) (by rw [Nat.pow_succ]; omega)
    rw [show m + (l.length + 1) = m + 1 + l.length by omega]
    exact this

theorem val_take_lt (l : List UInt8) (h : ∀ c ∈ l, c.toNat ≤ 57) (hl : l.length ≤ 5) (k : Nat) : val (l.take k) < 100000 := by
  have h1 := val_lt (l.take k) (fun c hc => h c (List.mem_of_mem_take hc))
  have h2 : (l.take k).length ≤ 5 := by simp; omega
  have h3 : (10 : Nat) ^ (l.take k).length ≤ 10 ^ 5 := Nat.pow_le_pow_right (by decide) h2
  omega

/-- What the method 'String' writes for c. -/
def cls (c : Int) : ByteArray := if c = 1 then ⟨#[73, 78]⟩ else ⟨(67 :: 76 :: 65 :: 83 :: 83 :: itoa c).toArray⟩

theorem cls_one : cls 1 = ⟨#[73, 78]⟩ := rfl
theorem cls_other {c : Int} (h : c ≠ 1) : cls c = ⟨(67 :: 76 :: 65 :: 83 :: 83 :: itoa c).toArray⟩ := by unfold cls; rw [if_neg h]

theorem itoa_len {c : Int} (h0 : 0 ≤ c) (h1 : c ≤ 65535) : 1 ≤ (itoa c).length ∧ (itoa c).length ≤ 5 := by
  obtain ⟨m, rfl⟩ := Int.eq_ofNat_of_zero_le h0
  rw [itoa_nonneg]
  exact ⟨dec_pos m, dec_short (by omega)⟩

theorem cls_cat {c : Int} (h : c ≠ 1) : ((⟨#[67, 76, 65, 83, 83]⟩ : ByteArray) ++ ⟨(itoa c).toArray⟩) = cls c := by
  rw [cls_other h]
  apply ByteArray.ext
  simp [ByteArray.data_append]

theorem cls_size {c : Int} (h : c ≠ 1) (h0 : 0 ≤ c) (h1 : c ≤ 65535) : 6 ≤ (cls c).size ∧ (cls c).size ≤ 10 := by
  have := itoa_len h0 h1
  rw [cls_other h]
  show 6 ≤ (67 :: 76 :: 65 :: 83 :: 83 :: itoa c).toArray.size ∧ _
  simp only [List.size_toArray, List.length_cons, ByteArray.size]
  omega

/-- The first five bytes are CLASS. -/
theorem cls_pfx {c : Int} (h : c ≠ 1) (i : Nat) (h1 : i < (cls c).size) (h2 : i < (⟨#[67, 76, 65, 83, 83]⟩ : ByteArray).size) : (cls c)[i] = (⟨#[67, 76, 65, 83, 83]⟩ : ByteArray)[i] := by
  have h3 : i < 5 := h2
  have e : ∀ (b : ByteArray) (e : b = ⟨(67 :: 76 :: 65 :: 83 :: 83 :: itoa c).toArray⟩) (hb : i < b.size), b[i] = (⟨#[67, 76, 65, 83, 83]⟩ : ByteArray)[i] := by
    intro b e hb
    subst e
    match i, h3 with
    | 0, _ => rfl
    | 1, _ => rfl
    | 2, _ => rfl
    | 3, _ => rfl
    | 4, _ => rfl
  exact e _ (cls_other h) h1

/-- What follows the five bytes is the numeral. -/
theorem cls_rest {c : Int} (h : c ≠ 1) : (cls c).extract 5 (cls c).size = ⟨(itoa c).toArray⟩ := by
  rw [cls_other h]
  apply ByteArray.ext
  simp [ByteArray.size]

theorem itoa_val {c : Int} (h0 : 0 ≤ c) : ((val (itoa c) : Nat) : Int) = c := by
  obtain ⟨m, rfl⟩ := Int.eq_ofNat_of_zero_le h0
  rw [itoa_nonneg, val_dec]

theorem itoa_digit {c : Int} (h0 : 0 ≤ c) (i : Nat) (hi : i < (⟨(itoa c).toArray⟩ : ByteArray).size) : 48 ≤ ((⟨(itoa c).toArray⟩ : ByteArray)[i].toNat : Int) ∧ ((⟨(itoa c).toArray⟩ : ByteArray)[i].toNat : Int) ≤ 57 := by
  obtain ⟨m, rfl⟩ := Int.eq_ofNat_of_zero_le h0
  have hi' : i < (itoa (m : Int)).length := hi
  have e : (⟨(itoa (m : Int)).toArray⟩ : ByteArray)[i] = (itoa (m : Int))[i] := rfl
  have hm : (itoa (m : Int))[i] ∈ decDigits m := by
    rw [← itoa_nonneg m]
    exact List.getElem_mem hi'
  have := mem_dec m _ hm
  rw [e]
  omega

theorem itoa_first {c : Int} (h0 : 0 ≤ c) (hi : 0 < (⟨(itoa c).toArray⟩ : ByteArray).size) : (⟨(itoa c).toArray⟩ : ByteArray).size = 1 ∨ 49 ≤ ((⟨(itoa c).toArray⟩ : ByteArray)[0].toNat : Int) := by
  obtain ⟨m, rfl⟩ := Int.eq_ofNat_of_zero_le h0
  have hi' : 0 < (itoa (m : Int)).length := hi
  by_cases h1 : (itoa (m : Int)).length = 1
  · exact Or.inl h1
  · right
    have e : (⟨(itoa (m : Int)).toArray⟩ : ByteArray)[0] = (itoa (m : Int))[0] := rfl
    obtain ⟨d, l, hd, hge⟩ := dec_head_long (n := m) (by rw [← itoa_nonneg m]; omega)
    have e2 : (itoa (m : Int))[0] = d := by
      have h3 : (itoa (m : Int))[0]? = some d := by rw [itoa_nonneg, hd]; rfl
      rw [List.getElem?_eq_getElem hi'] at h3
      exact Option.some.inj h3
    rw [e, e2]
    omega

theorem itoa_inj {a b : Int} (ha : 0 ≤ a) (hb : 0 ≤ b) (h : itoa a = itoa b) : a = b := by
  obtain ⟨m, rfl⟩ := Int.eq_ofNat_of_zero_le ha
  obtain ⟨n, rfl⟩ := Int.eq_ofNat_of_zero_le hb
  rw [itoa_nonneg, itoa_nonneg] at h
  have h1 := val_dec m
  rw [h, val_dec] at h1
  omega

/-- Two classes print alike only if they are one. -/
theorem cls_inj {a b : Int} (ha : 0 ≤ a) (hb : 0 ≤ b) (h : cls a = cls b) : a = b := by
  by_cases h1 : a = 1
  · by_cases h2 : b = 1
    · omega
    · rw [h1, cls_one, cls_other h2] at h
      have := congrArg (fun x : ByteArray => x.data.toList) h
      simp at this
  · by_cases h2 : b = 1
    · rw [h2, cls_one, cls_other h1] at h
      have := congrArg (fun x : ByteArray => x.data.toList) h
      simp at this
    · rw [cls_other h1, cls_other h2] at h
      have := congrArg (fun x : ByteArray => x.data.toList) h
      simp only [List.cons.injEq, true_and] at this
      exact itoa_inj ha hb this

end Go.Proofs.Qxb6003358aDoor.Plain
