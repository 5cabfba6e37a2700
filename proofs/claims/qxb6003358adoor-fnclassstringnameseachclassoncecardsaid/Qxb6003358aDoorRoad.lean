/-
  The walks on the road of 'FnClassStringNamesEachClassOnce'.
-/
import Derived.Test.Qxb6003358aDoorRows
import Derived.Test.Qxb6003358aDoorMath
import Derived.Test.Qxb6003358aDoorShelf
import Derived.WalkKit
import Derived.WalkSpells
import Derived.Below
import Derived.Deep.QuietTactic
import Derived.BigQuiet
import Derived.WalkSmall
namespace Go.Proofs.Qxb6003358aDoor
open Go.RowKit

theorem take_snoc (s : ByteArray) (k : Nat) (h : k < s.size) : s.data.toList.take (k + 1) = s.data.toList.take k ++ [s[k]] := by
  rw [List.take_succ_eq_append_getElem (by simpa using h)]; rfl

theorem ret_str {a b : ByteArray} (h : a = b) : Ending.returned (.string a) = .returned (.string b) := by rw [h]
theorem ret_pair {k : IntKind} {a b : Int} {c : Bool} (h : a = b) : Ending.returned (.tuple #[.int k a, .bool c]) = .returned (.tuple #[.int k b, .bool c]) := by rw [h]

/-- 'parseDec' at a row of one to five digits without a leading nought. -/
theorem parse_ok (s : ByteArray) (w : World) (h1 : 1 ≤ s.size) (h5 : s.size ≤ 5) (hd : ∀ (i : Nat) (hi : i < s.size), 48 ≤ (s[i].toNat : Int) ∧ (s[i].toNat : Int) ≤ 57) (h0 : s.size = 1 ∨ 49 ≤ (s[0].toNat : Int)) :
    Calls Tryd.prog 11 #[.string s] w fun e w' => e = .returned (.tuple #[.int .i64 (Plain.val s.data.toList), .bool true]) ∧ w' = w := by
  have hmem : ∀ c ∈ s.data.toList, c.toNat ≤ 57 := by
    intro c hc
    obtain ⟨i, hi, rfl⟩ := List.mem_iff_getElem.1 hc
    have := (hd i (by simpa using hi)).2
    have e : s[i]'(by simpa using hi) = s.data.toList[i] := rfl
    rw [e] at this
    omega
  have hlen : s.data.toList.length ≤ 5 := by simpa using h5
  have HV : Hid (∀ k, Plain.val (s.data.toList.take k) < 100000) := fun k => Plain.val_take_lt _ hmem hlen k
  have HD : Hid (∀ (i : Nat) (hi : i < s.size), 48 ≤ (s[i].toNat : Int) ∧ (s[i].toNat : Int) ≤ 57) := hd
  clear hd hmem hlen
  have HSN : Hid (∀ (k : Nat) (h : k < s.size), Plain.val (s.data.toList.take (k + 1)) = Plain.val (s.data.toList.take k) * 10 + (s[k].toNat - 48)) := fun k h => by
    rw [take_snoc s k h, Plain.val_snoc]
  have HALL : Hid (s.data.toList.take s.size = s.data.toList) := List.take_of_length_le (by simp)
  have hh : s.size ≤ 1 ∨ (1 < s.size ∧ 49 ≤ (s[0].toNat : Int)) := by omega
  clear h0
  have t1 : ((s.size : Int) == 0) = false := by rw [beq_eq_false_iff_ne]; omega
  have t2 : decide (5 < (s.size : Int)) = false := by simp; omega
  have hh2 : decide (1 < (s.size : Int)) = false ∨ (decide (1 < (s.size : Int)) = true ∧ 1 < s.size ∧ ((s[0].toNat : Int) == 48) = false) := by
    rcases hh with hs1 | ⟨hs1, hz⟩
    · exact Or.inl (by simp; omega)
    · exact Or.inr ⟨by simp; omega, hs1, by rw [beq_eq_false_iff_ne]; omega⟩
  clear hh
  rcases hh2 with hs1 | ⟨hs1, hs2, hz⟩
  all_goals
    go_enter Tryd.func11, Tryd.ntmps11
    go_wp2
    go_loop [4, 5] (fun v i => ∃ (k : Nat) (z : Int), k ≤ s.size ∧ i = .int .i64 k ∧ v = .int .i64 z ∧ 0 ≤ z ∧ z < 100000 ∧ Hid (z = (Plain.val (s.data.toList.take k) : Nat))) (fun _ i => s.size - (intOf i).toNat)
    case atStart => exact ⟨0, 0, Nat.zero_le _, rfl, rfl, by omega, by omega, rfl⟩
    case round =>
      obtain ⟨k, z, hk, rfl, rfl, hz0, hz1, HZ⟩ := hrel
      by_cases hlt : k < s.size
      · have HS : Hid (Plain.val (s.data.toList.take (k + 1)) = Plain.val (s.data.toList.take k) * 10 + (s[k].toNat - 48)) := HSN.out k hlt
        go_wp2
        all_goals first
          | (exfalso; have := HD.out k hlt; omega)
          | skip
        go_round
        case rel =>
          have h1 := HS.out
          have h2 := HZ.out
          have h3 := HV.out (k + 1)
          have h4 := HD.out k hlt
          refine ⟨k + 1, _, by omega, by go_num, rfl, ?_, ?_, ?_⟩
          · omega
          · omega
          · show _ = _
            omega
        case measure => simp [intOf]; omega
      · have hke : k = s.size := by omega
        subst hke
        go_wp2
        go_ret2
        exact ⟨ret_pair (by rw [HZ.out, HALL.out]), rfl⟩

/-- 'hasPrefix' where it holds. -/
theorem pfx_ok (s p : ByteArray) (w : World) (hs : p.size ≤ s.size) (hm : s.size ≤ 1000) (he : ∀ (i : Nat) (h1 : i < s.size) (h2 : i < p.size), s[i] = p[i]) :
    Calls Tryd.prog 10 #[.string s, .string p] w fun e w' => e = .returned (.bool true) ∧ Below w.heap.size w w' := by
  have HE : Hid (∀ (i : Nat) (h1 : i < s.size) (h2 : i < p.size), s[i] = p[i]) := he
  clear he
  go_enter Tryd.func10, Tryd.ntmps10
  go_wp2
  go_loopw [5] (fun i wr => ∃ (k : Nat), k ≤ p.size ∧ i = .int .i64 k ∧ Below w.heap.size w wr) (fun i _ => p.size - (intOf i).toNat)
  case atStart => exact ⟨0, Nat.zero_le _, rfl, Below.refl _ _⟩
  case round =>
    obtain ⟨k, hk, rfl, hb⟩ := hrel
    by_cases hlt : k < p.size
    · have hks : k < s.size := by omega
      have i1 : (k : Int) < (p.size : Int) := by omega
      have i2 : (k : Int) < (s.size : Int) := by omega
      go_wp2
      go_quiet (fail)
      go_wp2
      · exfalso
        have hx : ((s[k].toNat : Int) != (p[k].toNat : Int)) = true := by assumption
        simp [HE.out k hks hlt] at hx
      · go_roundw
        case rel => exact ⟨k + 1, by omega, by go_num, below_drewN hb _⟩
        case measure => simp [intOf]; omega
    · go_wp2
      go_ret
      exact ⟨rfl, hb⟩

/-- The library's table of the powers of ten stands in its variable (the first that the row names). -/
def Tab (w : World) : Prop := Lib.TabIs Tryd.prog w (Rows.fnClassStringNamesEachClassOnceRow.named.headD "") .u64 Lib.pow10Tab

theorem below_grow (w : World) (k : Nat) (os : Array Obj) : Below w.heap.size w (Go.Sort.grow (w.drewN k) os) :=
  ⟨rfl, rfl, rfl, by simp [Go.Sort.grow, World.drewN], fun i hi => by simp [Go.Sort.grow, World.drewN, Array.getElem?_append, hi]⟩

/-- 'strconv.Itoa', off the shelf. -/
theorem itoa_any (n : Int) (h0 : 0 ≤ n) (h1 : n ≤ 65535) (w : World) (htab : Tab w) :
    Calls Tryd.prog 9 #[.int .i64 n] w fun e w' => e = .returned (.string ⟨(Lib.itoa n).toArray⟩) ∧ Below w.heap.size w w' := by
  refine (Go.Proofs.Any.strconv_Itoa Tryd.laysM171 n (by omega) (by omega) w (by exact htab)).mono ?_
  rintro e w' ⟨rfl, k, os, rfl⟩
  exact ⟨rfl, below_grow w k os⟩

/-- the method 'String'. -/
theorem string_one (w : World) :
    Calls Tryd.prog 7 #[.int .u16 1] w fun e w' => e = .returned (.string (Plain.cls 1)) ∧ Below w.heap.size w w' := by
  go_enter Tryd.func7, Tryd.ntmps7
  go_wp2
  go_ret
  exact ⟨rfl, Below.refl _ _⟩

theorem string_other (c : Int) (h0 : 0 ≤ c) (h1 : c ≤ 65535) (hc : c ≠ 1) (w : World) (htab : Tab w) :
    Calls Tryd.prog 7 #[.int .u16 c] w fun e w' => e = .returned (.string (Plain.cls c)) ∧ Below w.heap.size w w' := by
  have hcb : (c == 1) = false := by rw [beq_eq_false_iff_ne]; exact hc
  have HC : Hid (c ≠ 1) := hc
  have hl := (Plain.itoa_len h0 h1).2
  have HT : Hid (Tab w) := htab
  clear hc htab
  go_enter Tryd.func7, Tryd.ntmps7
  go_wp2_with fail
  refine (itoa_any c h0 h1 _ HT.out).mono ?_
  rintro e w1 ⟨rfl, hb⟩
  go_wp2
  go_ret
  exact ⟨ret_str (Plain.cls_cat HC.out), hb⟩

/-- 'classShapeOK' at what the method 'String' wrote. -/
theorem shape_one (w : World) :
    Calls Tryd.prog 8 #[.int .u16 1, .string (Plain.cls 1)] w fun e w' => e = .returned (.bool true) ∧ Below w.heap.size w w' := by
  rw [Plain.cls_one]
  go_enter Tryd.func8, Tryd.ntmps8
  go_wp2
  go_ret
  exact ⟨rfl, Below.refl _ _⟩

/-- 'parseDec' at what follows the five bytes. -/
theorem parse_cls (c : Int) (h0 : 0 ≤ c) (h1 : c ≤ 65535) (hc : c ≠ 1) (w : World) :
    Calls Tryd.prog 11 #[.string ((Plain.cls c).extract 5 (Plain.cls c).size)] w fun e w' => e = .returned (.tuple #[.int .i64 c, .bool true]) ∧ w' = w := by
  rw [Plain.cls_rest hc]
  have hl := Plain.itoa_len h0 h1
  have hz : (⟨(Lib.itoa c).toArray⟩ : ByteArray).size = (Lib.itoa c).length := rfl
  refine (parse_ok ⟨(Lib.itoa c).toArray⟩ w (by rw [hz]; exact hl.1) (by rw [hz]; exact hl.2) (fun i hi => Plain.itoa_digit h0 i hi) (Plain.itoa_first h0 (by rw [hz]; exact hl.1))).mono ?_
  rintro e w' ⟨rfl, rfl⟩
  exact ⟨ret_pair (Plain.itoa_val h0), rfl⟩

theorem shape_other (c : Int) (h0 : 0 ≤ c) (h1 : c ≤ 65535) (hc : c ≠ 1) (w : World) :
    Calls Tryd.prog 8 #[.int .u16 c, .string (Plain.cls c)] w fun e w' => e = .returned (.bool true) ∧ Below w.heap.size w w' := by
  have hcb : (c == 1) = false := by rw [beq_eq_false_iff_ne]; exact hc
  have hpre : ∀ W : World, Calls Tryd.prog 10 #[.string (Plain.cls c), .string ⟨#[67, 76, 65, 83, 83]⟩] W fun e w' => e = .returned (.bool true) ∧ Below W.heap.size W w' := by
    intro W
    have hz := Plain.cls_size hc h0 h1
    exact pfx_ok _ _ W (by show 5 ≤ _; omega) (by omega) (fun i h1 h2 => Plain.cls_pfx hc i h1 h2)
  have hpar := parse_cls c h0 h1 hc
  have hz := Plain.cls_size hc h0 h1
  obtain ⟨s, hs⟩ : ∃ s, s = Plain.cls c := ⟨_, rfl⟩
  rw [← hs] at hz hpre hpar ⊢
  have HPRE : Hid (∀ W : World, Calls Tryd.prog 10 #[.string s, .string ⟨#[67, 76, 65, 83, 83]⟩] W fun e w' => e = .returned (.bool true) ∧ Below W.heap.size W w') := hpre
  have HPAR : Hid (∀ W : World, Calls Tryd.prog 11 #[.string (s.extract 5 s.size)] W fun e w' => e = .returned (.tuple #[.int .i64 c, .bool true]) ∧ w' = W) := hpar
  clear hc hs hpre hpar
  obtain ⟨hz1, hz2⟩ := hz
  go_enter Tryd.func8, Tryd.ntmps8
  go_wp2_with fail
  refine (HPRE.out _).mono ?_
  rintro e w1 ⟨rfl, hb⟩
  go_wp2_with fail
  refine (HPAR.out _).mono ?_
  rintro e w2 ⟨rfl, rfl⟩
  go_wp2
  go_ret
  exact ⟨rfl, hb⟩

theorem shape_any (c : Int) (h0 : 0 ≤ c) (h1 : c ≤ 65535) (w : World) :
    Calls Tryd.prog 8 #[.int .u16 c, .string (Plain.cls c)] w fun e w' => e = .returned (.bool true) ∧ Below w.heap.size w w' := by
  by_cases hc : c = 1
  · subst hc; exact shape_one w
  · exact shape_other c h0 h1 hc w

theorem string_any (c : Int) (h0 : 0 ≤ c) (h1 : c ≤ 65535) (w : World) (htab : Tab w) :
    Calls Tryd.prog 7 #[.int .u16 c] w fun e w' => e = .returned (.string (Plain.cls c)) ∧ Below w.heap.size w w' := by
  by_cases hc : c = 1
  · subst hc; exact string_one w
  · exact string_other c h0 h1 hc w htab

/-- The law's first test: the two texts are alike exactly where the two classes are. -/
theorem alike_test {a b : Int} (ha0 : 0 ≤ a) (hb0 : 0 ≤ b) : (!((Plain.cls a).toList == (Plain.cls b).toList) == (a == b)) = false := by
  rw [ByteArray.toList_eq, ByteArray.toList_eq]
  by_cases h : a = b
  · subst h; simp
  · have h1 : (a == b) = false := by rw [beq_eq_false_iff_ne]; exact h
    have h2 : ((Plain.cls a).data.toList == (Plain.cls b).data.toList) = false := by
      rw [beq_eq_false_iff_ne]
      intro e
      exact h (Plain.cls_inj ha0 hb0 (Go.WideShapes.bytes_inj e))
    rw [h1, h2]
    rfl

/-- THE WALK: whatever the two classes, the law answers true, and nothing that was there has turned. -/
theorem walk (a b : Int) (ha0 : 0 ≤ a) (ha1 : a ≤ 65535) (hb0 : 0 ≤ b) (hb1 : b ≤ 65535) (w : World) (htab : Tab w) (htab2 : ∀ w', Below w.heap.size w w' → Tab w') :
    Calls Tryd.prog 4 #[.int .u16 a, .int .u16 b] w fun e w' => e = .returned (.bool true) ∧ Below w.heap.size w w' := by
  have HT : Hid (Tab w) := htab
  have HT2 : Hid (∀ w', Below w.heap.size w w' → Tab w') := htab2
  have HSA : Hid (∀ W : World, Tab W → Calls Tryd.prog 7 #[.int .u16 a] W fun e w' => e = .returned (.string (Plain.cls a)) ∧ Below W.heap.size W w') := fun W h => string_any a ha0 ha1 W h
  have HSB : Hid (∀ W : World, Tab W → Calls Tryd.prog 7 #[.int .u16 b] W fun e w' => e = .returned (.string (Plain.cls b)) ∧ Below W.heap.size W w') := fun W h => string_any b hb0 hb1 W h
  have HPA : Hid (∀ W : World, Calls Tryd.prog 8 #[.int .u16 a, .string (Plain.cls a)] W fun e w' => e = .returned (.bool true) ∧ Below W.heap.size W w') := fun W => shape_any a ha0 ha1 W
  have HPB : Hid (∀ W : World, Calls Tryd.prog 8 #[.int .u16 b, .string (Plain.cls b)] W fun e w' => e = .returned (.bool true) ∧ Below W.heap.size W w') := fun W => shape_any b hb0 hb1 W
  have heq : (!((Plain.cls a).toList == (Plain.cls b).toList) == (a == b)) = false := alike_test ha0 hb0
  clear htab htab2
  obtain ⟨sa, hsa⟩ : ∃ s, s = Plain.cls a := ⟨_, rfl⟩
  obtain ⟨sb, hsb⟩ : ∃ s, s = Plain.cls b := ⟨_, rfl⟩
  rw [← hsa] at HSA HPA heq
  rw [← hsb] at HSB HPB heq
  clear hsa hsb
  go_enter Tryd.func4, Tryd.ntmps4
  go_wp2_with fail
  refine (HSA.out _ HT.out).mono ?_
  rintro e w1 ⟨rfl, hw1⟩
  go_wp2_with fail
  refine (HSB.out _ (HT2.out _ hw1)).mono ?_
  rintro e w2 ⟨rfl, hw2⟩
  go_wp2_with fail
  refine (HPA.out _).mono ?_
  rintro e w3 ⟨rfl, hw3⟩
  go_wp2_with fail
  refine (HPB.out _).mono ?_
  rintro e w4 ⟨rfl, hw4⟩
  go_wp2
  go_ret
  have z1 := hw1.size
  have z2 := hw2.size
  have z3 := hw3.size
  exact ⟨rfl, hw1.trans ((hw2.mono z1).trans ((hw3.mono (by omega)).trans (hw4.mono (by omega))))⟩
end Go.Proofs.Qxb6003358aDoor
