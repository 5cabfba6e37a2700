/-
  The walks on the road of 'FnMostReplacedIsJoinThreshold'.
-/
import Derived.Test.Qxb6003321aFmtRows
import Derived.Test.Qxb6003321aFmtMath
import Derived.WalkKit
import Derived.WalkSpells
import Derived.Stop.CallBack
import Derived.Stop.IfaceNil
import Derived.Below
namespace Go.Proofs.Qxb6003321aFmt
open Go.RowKit Go.Extern.Stop Go.Stop Go.Extern

theorem call45 (args : Array Value) (w : World) : (callFunc 45 args).run Tryf.prog w = ((FmtStop.errorf #[9, 90] #[25] args).run Tryf.prog w).andThen fun v w' => .ok (.value v) w' :=
  run_callFunc_extern Tryf.func45 (by kernel_rfl) (by kernel_rfl) (by kernel_rfl) (by kernel_rfl) args w
theorem guard (name : String) (w : World) : (FmtStop.guard name).run Tryf.prog w = .ok () w := by kernel_rfl
/-- The format of 'checkJoins' text, its three verbs. -/
theorem fmtJ : FmtStop.printed? ⟨#[37, 100, 32, 110, 101, 119, 32, 110, 111, 100, 101, 115, 32, 99, 97, 110, 110, 111, 116, 32, 106, 111, 105, 110, 32, 116, 104, 114, 111, 117, 103, 104, 32, 37, 100, 32, 101, 110, 116, 114, 121, 32, 110, 111, 100, 101, 115, 32, 111, 102, 32, 97, 116, 116, 97, 99, 104, 32, 99, 97, 112, 32, 37, 100]⟩ 3 = some [(0, 100, false), (1, 100, false), (2, 100, false)] := by kernel_rfl
theorem fmtJr (w : World) : (FmtDoors.printed ⟨#[37, 100, 32, 110, 101, 119, 32, 110, 111, 100, 101, 115, 32, 99, 97, 110, 110, 111, 116, 32, 106, 111, 105, 110, 32, 116, 104, 114, 111, 117, 103, 104, 32, 37, 100, 32, 101, 110, 116, 114, 121, 32, 110, 111, 100, 101, 115, 32, 111, 102, 32, 97, 116, 116, 97, 99, 104, 32, 99, 97, 112, 32, 37, 100]⟩ 3).run Tryf.prog w = .ok [(0, 100, false), (1, 100, false), (2, 100, false)] w := by kernel_rfl
def shape3 : List UInt8 := [5, 3, 0, 0, 0, 0, 0, 0, 0, 105, 110, 116]
theorem op3_100 (name : String) (x : Int) (w : World) : (FmtStop.operand name false 100 false (.iface 3 (.int .i64 x))).run Tryf.prog w = .ok (shape3, Go.Extern.Stop.digits 8 (x % 2 ^ 64).toNat) w := by kernel_rfl
theorem op3_100w (name : String) (x : Int) (w : World) : (FmtStop.operand name true 100 false (.iface 3 (.int .i64 x))).run Tryf.prog w = .ok (shape3, Go.Extern.Stop.digits 8 (x % 2 ^ 64).toNat) w := by kernel_rfl
theorem ptr95 (w : World) : (FmtStop.ptrTo "errors.errorString").run Tryf.prog w = .ok 95 w := by kernel_rfl
theorem elem95 (w : World) : (elemOf 95).run Tryf.prog w = .ok 97 w := by kernel_rfl
attribute [local go_sem] call45 guard fmtJ fmtJr op3_100 op3_100w ptr95 elem95

/-- 'Model.check' of a valid model. -/
theorem check_ok (n a : Int) (w : World) (h1 : 1 ≤ n) (h2 : n ≤ 2147483647) (h3 : 1 ≤ a) :
    Calls Tryf.prog 31 #[.agg #[.int .i64 n, .int .i64 a]] w fun e w' => e = .returned .nilIface ∧ Below w.heap.size w w' := by
  go_enter Tryf.func31, Tryf.ntmps31
  go_wp2
  go_ret
  exact ⟨rfl, (Below.refl _ _).alloc (Nat.le_refl _) _⟩

theorem ret_bool {a b : Bool} (h : a = b) : Ending.returned (.bool a) = .returned (.bool b) := by rw [h]
theorem ret_int {k : IntKind} {a b : Int} (h : a = b) : Ending.returned (.int k a) = .returned (.int k b) := by rw [h]

/-- 'Model.mostReplaced' of a valid model. -/
theorem most_any (n a : Int) (w : World) (h1 : 1 ≤ n) (h2 : n ≤ 2147483647) (h3 : 1 ≤ a) (h4 : a ≤ 9223372036854775807) :
    Calls Tryf.prog 32 #[.agg #[.int .i64 n, .int .i64 a]] w fun e w' => e = .returned (.int .i64 (Plain.most n a)) ∧ Below w.heap.size w w' := by
  by_cases h : n - 1 ≤ a
  · go_enter Tryf.func32, Tryf.ntmps32
    go_wp2
    go_ret
    exact ⟨ret_int (by unfold Plain.most; rw [if_pos h]), (Below.refl _ _).alloc (Nat.le_refl _) _⟩
  · have hb := Plain.mul_bd2 h3 h1 h2 (by omega)
    go_enter Tryf.func32, Tryf.ntmps32
    go_wp2
    go_ret
    exact ⟨ret_int (by unfold Plain.most; rw [if_neg (by omega)]), (Below.refl _ _).alloc (Nat.le_refl _) _⟩

/-- 'Model.checkJoins' where it accepts by the cap alone. -/
theorem joins_cap (n a c : Int) (w : World) (h : ¬ a < c) :
    Calls Tryf.prog 33 #[.agg #[.int .i64 n, .int .i64 a], .int .i64 c] w fun e w' => e = .returned .nilIface ∧ Below w.heap.size w w' := by
  go_enter Tryf.func33, Tryf.ntmps33
  go_wp2
  go_ret
  exact ⟨rfl, (Below.refl _ _).alloc (Nat.le_refl _) _⟩

/-- 'Model.checkJoins' where it accepts by the product. -/
theorem joins_product (n a c : Int) (w : World) (h1 : 1 ≤ n) (h2 : n ≤ 2147483647) (h3 : 1 ≤ a) (hc : c < n) (h : a < c) (hp : ¬ a * (n - c) < c) :
    Calls Tryf.prog 33 #[.agg #[.int .i64 n, .int .i64 a], .int .i64 c] w fun e w' => e = .returned .nilIface ∧ Below w.heap.size w w' := by
  have hb := Plain.mul_bd h3 h2 h hc
  go_enter Tryf.func33, Tryf.ntmps33
  go_wp2
  go_ret
  exact ⟨rfl, (Below.refl _ _).alloc (Nat.le_refl _) _⟩

/-- 'Model.checkJoins' where it refuses: a new error, whatever fmt writes. -/
theorem joins_no (F : Interp) (n a c : Int) (w : World) (hF : F.answers w.tape) (h1 : 1 ≤ n) (h2 : n ≤ 2147483647) (h3 : 1 ≤ a) (hc : c < n) (h : a < c) (hp : a * (n - c) < c) :
    Calls Tryf.prog 33 #[.agg #[.int .i64 n, .int .i64 a], .int .i64 c] w fun e w' => (∃ x, e = .returned (.iface 95 (.pointer (some x)))) ∧ Below w.heap.size w w' := by
  have hb := Plain.mul_bd h3 h2 h hc
  have hF' := answers_open hF
  go_enter Tryf.func33, Tryf.ntmps33
  go_wp2
  go_ret
  exact ⟨⟨_, rfl⟩, ((((Below.refl _ _).alloc (Nat.le_refl _) _).alloc (by simp) _).alloc (by simp; omega) _).drew⟩

theorem zcheck_ok (n a : Int) (w : World) (h1 : 1 ≤ n) (h2 : n ≤ 2147483647) (h3 : 1 ≤ a) :
    Calls Tryf.prog 11 #[.agg #[.int .i64 n, .int .i64 a]] w fun e w' => e = .returned .nilIface ∧ Below w.heap.size w w' := by
  go_enter Tryf.func11, Tryf.ntmps11
  go_wp2_with fail
  refine (check_ok n a _ h1 h2 h3).mono ?_
  rintro e w' ⟨rfl, hb⟩
  go_wp2
  go_ret
  exact ⟨rfl, ((Below.refl _ _).alloc (Nat.le_refl _) _).trans (hb.mono (by simp))⟩

theorem zmost_any (n a : Int) (w : World) (h1 : 1 ≤ n) (h2 : n ≤ 2147483647) (h3 : 1 ≤ a) (h4 : a ≤ 9223372036854775807) :
    Calls Tryf.prog 12 #[.agg #[.int .i64 n, .int .i64 a]] w fun e w' => e = .returned (.int .i64 (Plain.most n a)) ∧ Below w.heap.size w w' := by
  go_enter Tryf.func12, Tryf.ntmps12
  go_wp2_with fail
  refine (most_any n a _ h1 h2 h3 h4).mono ?_
  rintro e w' ⟨rfl, hb⟩
  go_wp2
  go_ret
  exact ⟨rfl, ((Below.refl _ _).alloc (Nat.le_refl _) _).trans (hb.mono (by simp))⟩

theorem joins_yes (n a c : Int) (W : World) (h1 : 1 ≤ n) (h2 : n ≤ 2147483647) (h3 : 1 ≤ a) (hc : c < n) (h : ¬ (a < c ∧ a * (n - c) < c)) :
    Calls Tryf.prog 33 #[.agg #[.int .i64 n, .int .i64 a], .int .i64 c] W fun e w' => e = .returned .nilIface ∧ Below W.heap.size W w' := by
  by_cases hac : a < c
  · exact joins_product n a c W h1 h2 h3 hc hac (fun hp => h ⟨hac, hp⟩)
  · exact joins_cap n a c W hac

theorem zjoins_yes (n a c : Int) (w : World) (h1 : 1 ≤ n) (h2 : n ≤ 2147483647) (h3 : 1 ≤ a) (hc : c < n) (h : ¬ (a < c ∧ a * (n - c) < c)) :
    Calls Tryf.prog 13 #[.agg #[.int .i64 n, .int .i64 a], .int .i64 c] w fun e w' => e = .returned .nilIface ∧ Below w.heap.size w w' := by
  have H : Hid (¬ (a < c ∧ a * (n - c) < c)) := h
  clear h
  go_enter Tryf.func13, Tryf.ntmps13
  go_wp2_with fail
  refine (joins_yes n a c _ h1 h2 h3 hc H.out).mono ?_
  rintro e w' ⟨rfl, hb⟩
  go_wp2
  go_ret
  exact ⟨rfl, ((Below.refl _ _).alloc (Nat.le_refl _) _).trans (hb.mono (by simp))⟩

theorem zjoins_no (F : Interp) (n a c : Int) (w : World) (hF : F.answers w.tape) (h1 : 1 ≤ n) (h2 : n ≤ 2147483647) (h3 : 1 ≤ a) (hc : c < n) (h : a < c ∧ a * (n - c) < c) :
    Calls Tryf.prog 13 #[.agg #[.int .i64 n, .int .i64 a], .int .i64 c] w fun e w' => (∃ x, e = .returned (.iface 95 (.pointer (some x)))) ∧ Below w.heap.size w w' := by
  have H : Hid (a < c ∧ a * (n - c) < c) := h
  clear h
  go_enter Tryf.func13, Tryf.ntmps13
  go_wp2_with fail
  refine (joins_no F n a c _ (by exact hF) h1 h2 h3 hc H.out.1 H.out.2).mono ?_
  rintro e w' ⟨⟨x, rfl⟩, hb⟩
  go_wp2
  go_ret
  exact ⟨⟨x, rfl⟩, ((Below.refl _ _).alloc (Nat.le_refl _) _).trans (hb.mono (by simp))⟩

theorem bcell {W w1 : World} (hb : Below W.heap.size W w1) : (∀ b o, b < W.heap.size → w1.cell? ⟨b, o, none⟩ = W.cell? ⟨b, o, none⟩) ∧ (∀ b o, b < W.heap.size → w1.frozen? ⟨b, o, none⟩ = W.frozen? ⟨b, o, none⟩) :=
  ⟨fun b o h => hb.cell (p := ⟨b, o, none⟩) h, fun b o h => hb.frozen (p := ⟨b, o, none⟩) h⟩

/-- THE LAW, outside its premises. -/
theorem walk_out (n a c : Int) (w : World) (h : n < 1 ∨ 2147483647 < n ∨ a < 1 ∨ c < 0 ∨ n ≤ c) :
    Calls Tryf.prog 3 #[.int .i64 n, .int .i64 a, .int .i64 c] w fun e w' => e = .returned (.bool true) ∧ Below w.heap.size w w' := by
  by_cases h1 : n < 1
  · go_enter Tryf.func3, Tryf.ntmps3
    go_wp2
    go_ret
    exact ⟨rfl, Below.refl _ _⟩
  by_cases h2 : 2147483647 < n
  · go_enter Tryf.func3, Tryf.ntmps3
    go_wp2
    go_ret
    exact ⟨rfl, Below.refl _ _⟩
  by_cases h3 : a < 1
  · go_enter Tryf.func3, Tryf.ntmps3
    go_wp2
    go_ret
    exact ⟨rfl, Below.refl _ _⟩
  by_cases h4 : c < 0
  · go_enter Tryf.func3, Tryf.ntmps3
    go_wp2
    go_ret
    exact ⟨rfl, Below.refl _ _⟩
  have h5 : n ≤ c := by omega
  go_enter Tryf.func3, Tryf.ntmps3
  go_wp2
  go_ret
  exact ⟨rfl, Below.refl _ _⟩

theorem walk_yes (n a c : Int) (w : World) (h1 : 1 ≤ n) (h2 : n ≤ 2147483647) (h3 : 1 ≤ a) (h4 : a ≤ 9223372036854775807) (hc0 : 0 ≤ c) (hc : c < n) (h : ¬ (a < c ∧ a * (n - c) < c)) :
    Calls Tryf.prog 3 #[.int .i64 n, .int .i64 a, .int .i64 c] w fun e w' => e = .returned (.bool true) ∧ Below w.heap.size w w' := by
  have m0 := Plain.most_nonneg h3 h1
  have m1 := Plain.most_lt (n := n) h3
  have m2 := (Plain.le_most (n := n) h3 hc).2 h
  have H : Hid (¬ (a < c ∧ a * (n - c) < c)) := h
  clear h
  go_enter Tryf.func3, Tryf.ntmps3
  go_wp2_with fail
  refine (zcheck_ok n a _ h1 h2 h3).mono ?_
  rintro e w1 ⟨rfl, hb1⟩
  obtain ⟨hc1, hf1⟩ := bcell hb1
  go_wp2_with fail
  refine (zmost_any n a _ h1 h2 h3 h4).mono ?_
  rintro e w2 ⟨rfl, hb2⟩
  have hz1 : w.heap.size < w1.heap.size := by have := hb1.size; simp at this; omega
  obtain ⟨hc2, hf2⟩ := bcell hb2
  go_wp2_with fail
  refine (zjoins_yes n a c _ h1 h2 h3 hc H.out).mono ?_
  rintro e w3 ⟨rfl, hb3⟩
  go_wp2
  go_ret
  exact ⟨rfl, (((Below.refl _ _).alloc (Nat.le_refl _) _).trans (hb1.mono (by simp))).trans ((hb2.mono (by omega)).trans (hb3.mono (by have := hb2.size; omega)))⟩

theorem walk_no (F : Interp) (n a c : Int) (w : World) (hF : F.answers w.tape) (h1 : 1 ≤ n) (h2 : n ≤ 2147483647) (h3 : 1 ≤ a) (h4 : a ≤ 9223372036854775807) (hc0 : 0 ≤ c) (hc : c < n) (h : a < c ∧ a * (n - c) < c) :
    Calls Tryf.prog 3 #[.int .i64 n, .int .i64 a, .int .i64 c] w fun e w' => e = .returned (.bool true) ∧ Below w.heap.size w w' := by
  have m0 := Plain.most_nonneg h3 h1
  have m1 := Plain.most_lt (n := n) h3
  have m2 : ¬ c ≤ Plain.most n a := fun hle => (Plain.le_most (n := n) h3 hc).1 hle h
  have H : Hid (a < c ∧ a * (n - c) < c) := h
  clear h
  go_enter Tryf.func3, Tryf.ntmps3
  go_wp2_with fail
  refine (zcheck_ok n a _ h1 h2 h3).mono ?_
  rintro e w1 ⟨rfl, hb1⟩
  obtain ⟨hc1, hf1⟩ := bcell hb1
  go_wp2_with fail
  refine (zmost_any n a _ h1 h2 h3 h4).mono ?_
  rintro e w2 ⟨rfl, hb2⟩
  have hz1 : w.heap.size < w1.heap.size := by have := hb1.size; simp at this; omega
  obtain ⟨hc2, hf2⟩ := bcell hb2
  go_wp2_with fail
  refine (zjoins_no F n a c _ (by rw [hb2.tape, hb1.tape]; exact hF) h1 h2 h3 hc H.out).mono ?_
  rintro e w3 ⟨⟨x, rfl⟩, hb3⟩
  go_wp2
  go_ret
  exact ⟨ret_bool (by simp; omega), (((Below.refl _ _).alloc (Nat.le_refl _) _).trans (hb1.mono (by simp))).trans ((hb2.mono (by omega)).trans (hb3.mono (by have := hb2.size; omega)))⟩

/-- THE WALK: whatever the three numbers, the law answers true, and nothing that was there has turned. -/
theorem walk (F : Interp) (n a c : Int) (w : World) (hF : F.answers w.tape) (ha : a ≤ 9223372036854775807) :
    Calls Tryf.prog 3 #[.int .i64 n, .int .i64 a, .int .i64 c] w fun e w' => e = .returned (.bool true) ∧ Below w.heap.size w w' := by
  by_cases h : n < 1 ∨ 2147483647 < n ∨ a < 1 ∨ c < 0 ∨ n ≤ c
  · exact walk_out n a c w h
  · by_cases h2 : a < c ∧ a * (n - c) < c
    · exact walk_no F n a c w hF (by omega) (by omega) (by omega) ha (by omega) (by omega) h2
    · exact walk_yes n a c w (by omega) (by omega) (by omega) ha (by omega) (by omega) h2

end Go.Proofs.Qxb6003321aFmt
