/-
  OUR OWN WORK. Seat b6626216a: THE PLAIN FUNCTIONS AND THE CONTRACTS of the functions that look at one byte (9 to 12).
-/
import Derived.Test.Qxb6626216aRows
import Derived.WalkKit
import Derived.WalkSpells
import Derived.WalkLawsBesides
import Derived.BigQuiet
import Derived.Deep.QuietTactic
namespace Go.Proofs.Qxb6626216a
open Go.RowKit
set_option linter.unusedSimpArgs false

/-- May the byte c stand in a name, at its head (lead) or behind it? -/
def vb (c : Int) (lead : Bool) : Bool := decide (c = 95 ∨ (97 ≤ c ∧ c ≤ 122) ∨ (65 ≤ c ∧ c ≤ 90) ∨ (lead = false ∧ 48 ≤ c ∧ c ≤ 57))
def letter (c : Int) : Bool := decide ((97 ≤ c ∧ c ≤ 122) ∨ (65 ≤ c ∧ c ≤ 90))
def digit (c : Int) : Bool := decide (48 ≤ c ∧ c ≤ 57)

theorem ret_bool {a b : Bool} (h : a = b) : Ending.returned (.bool a) = .returned (.bool b) := by rw [h]

set_option maxHeartbeats 1000000 in
theorem isVarByte_any (c : Int) (lead : Bool) (w : World) (h0 : 0 ≤ c) (h1 : c < 256) : Calls Try.prog 10 #[.int .u8 c, .bool lead] w fun e w' => e = .returned (.bool (vb c lead)) ∧ w' = w := by
  cases lead
  all_goals
    by_cases e : c = 95
    · subst e
      go_enter Try.func10, Try.ntmps10
      go_wp2
      go_ret
      exact ⟨rfl, rfl⟩
    have e' : (c == 95) = false := by simpa using e
    by_cases a1 : 97 ≤ c
    · by_cases a2 : c ≤ 122
      · go_enter Try.func10, Try.ntmps10
        go_wp2
        go_ret
        exact ⟨ret_bool (by apply Bool.eq_iff_iff.mpr; simp only [vb, Bool.or_eq_true, Bool.and_eq_true, decide_eq_true_eq, reduceCtorEq, false_and, true_and, or_false, true_iff, false_iff]; omega), rfl⟩
      · go_enter Try.func10, Try.ntmps10
        go_wp2
        go_ret
        exact ⟨ret_bool (by apply Bool.eq_iff_iff.mpr; simp only [vb, Bool.or_eq_true, Bool.and_eq_true, decide_eq_true_eq, reduceCtorEq, false_and, true_and, or_false, true_iff, false_iff]; omega), rfl⟩
    · by_cases a2 : 65 ≤ c
      · by_cases a3 : c ≤ 90
        · go_enter Try.func10, Try.ntmps10
          go_wp2
          go_ret
          exact ⟨ret_bool (by apply Bool.eq_iff_iff.mpr; simp only [vb, Bool.or_eq_true, Bool.and_eq_true, decide_eq_true_eq, reduceCtorEq, false_and, true_and, or_false, true_iff, false_iff]; omega), rfl⟩
        · go_enter Try.func10, Try.ntmps10
          go_wp2
          go_ret
          exact ⟨ret_bool (by apply Bool.eq_iff_iff.mpr; simp only [vb, Bool.or_eq_true, Bool.and_eq_true, decide_eq_true_eq, reduceCtorEq, false_and, true_and, or_false, true_iff, false_iff]; omega), rfl⟩
      · by_cases a3 : 48 ≤ c
        · by_cases a4 : c ≤ 57
          · go_enter Try.func10, Try.ntmps10
            go_wp2
            go_ret
            exact ⟨ret_bool (by apply Bool.eq_iff_iff.mpr; simp only [vb, Bool.or_eq_true, Bool.and_eq_true, decide_eq_true_eq, reduceCtorEq, false_and, true_and, or_false, true_iff, false_iff]; omega), rfl⟩
          · go_enter Try.func10, Try.ntmps10
            go_wp2
            go_ret
            exact ⟨ret_bool (by apply Bool.eq_iff_iff.mpr; simp only [vb, Bool.or_eq_true, Bool.and_eq_true, decide_eq_true_eq, reduceCtorEq, false_and, true_and, or_false, true_iff, false_iff]; omega), rfl⟩
        · go_enter Try.func10, Try.ntmps10
          go_wp2
          go_ret
          exact ⟨ret_bool (by apply Bool.eq_iff_iff.mpr; simp only [vb, Bool.or_eq_true, Bool.and_eq_true, decide_eq_true_eq, reduceCtorEq, false_and, true_and, or_false, true_iff, false_iff]; omega), rfl⟩

set_option maxHeartbeats 1000000 in
theorem digit_any (c : Int) (w : World) (h0 : 0 ≤ c) (h1 : c < 256) : Calls Try.prog 12 #[.int .u8 c] w fun e w' => e = .returned (.bool (digit c)) ∧ w' = w := by
  go_enter Try.func12, Try.ntmps12
  go_wp2
  go_ret
  exact ⟨ret_bool (by unfold digit; apply decide_eq_decide.mpr; omega), rfl⟩

set_option maxRecDepth 20000 in
theorem bits_letter : ∀ n : Fin 256, (97 ≤ bits BinOp.or IntKind.u8 (Int.ofNat n.val) 32 ∧ bits BinOp.or IntKind.u8 (Int.ofNat n.val) 32 ≤ 122) ↔ ((97 ≤ Int.ofNat n.val ∧ Int.ofNat n.val ≤ 122) ∨ (65 ≤ Int.ofNat n.val ∧ Int.ofNat n.val ≤ 90)) := by decide

theorem bits_letter' {c : Int} (h0 : 0 ≤ c) (h1 : c < 256) : (97 ≤ bits BinOp.or IntKind.u8 c 32 ∧ bits BinOp.or IntKind.u8 c 32 ≤ 122) ↔ ((97 ≤ c ∧ c ≤ 122) ∨ (65 ≤ c ∧ c ≤ 90)) := by
  obtain ⟨n, rfl⟩ := Int.eq_ofNat_of_zero_le h0
  exact bits_letter ⟨n, by omega⟩

set_option maxHeartbeats 1000000 in
theorem letter_any (c : Int) (w : World) (h0 : 0 ≤ c) (h1 : c < 256) : Calls Try.prog 11 #[.int .u8 c] w fun e w' => e = .returned (.bool (letter c)) ∧ w' = w := by
  have hl := bits_letter' h0 h1
  by_cases b1 : 97 ≤ bits BinOp.or IntKind.u8 c 32
  · by_cases b2 : bits BinOp.or IntKind.u8 c 32 ≤ 122
    · go_enter Try.func11, Try.ntmps11
      go_wp2
      go_ret
      exact ⟨ret_bool (decide_eq_true (hl.mp ⟨b1, b2⟩)).symm, rfl⟩
    · go_enter Try.func11, Try.ntmps11
      go_wp2
      go_ret
      exact ⟨ret_bool (decide_eq_false fun h => absurd (hl.mpr h).2 (by omega)).symm, rfl⟩
  · go_enter Try.func11, Try.ntmps11
    go_wp2
    go_ret
    exact ⟨ret_bool (decide_eq_false fun h => absurd (hl.mpr h).1 (by omega)).symm, rfl⟩
end Go.Proofs.Qxb6626216a
