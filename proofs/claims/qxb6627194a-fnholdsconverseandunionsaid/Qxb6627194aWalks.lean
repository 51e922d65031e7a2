/-
  Seat b6627194a: the contracts of the callees: Holds, negateComparison, signOf, converseComparison; and the plain laws.
-/
import Derived.Test.Qxb6627194aRows
import Derived.WalkKit
namespace Go.Proofs.Qxb6627194a
open Go.RowKit

/-- What Comparison.Holds computes, in the walk's own forms. -/
def holdsB (c o : Int) : Bool :=
  if c = 1 then o == 0 else if c = 2 then o != 0 else if c = 3 then decide (o < 0) else if c = 4 then decide (o ≤ 0)
  else if c = 5 then decide (0 < o) else if c = 6 then decide (0 ≤ o) else false

def negC (c : Int) : Int := if c = 1 then 2 else if c = 2 then 1 else if c = 3 then 6 else if c = 6 then 3 else if c = 5 then 4 else if c = 4 then 5 else c
def convC (c : Int) : Int := if c = 3 then 5 else if c = 5 then 3 else if c = 4 then 6 else if c = 6 then 4 else c
def sgn (x : Int) : Int := if x < 0 then -1 else if 0 < x then 1 else 0

theorem ret_bool {a b : Bool} (h : a = b) : Ending.returned (.bool a) = .returned (.bool b) := by rw [h]
theorem ret_int {k : IntKind} {a b : Int} (h : a = b) : Ending.returned (.int k a) = .returned (.int k b) := by rw [h]

set_option maxHeartbeats 400000 in
theorem holds_any (c o : Int) (w : World) :
    Calls Try.prog 5 #[.int .u8 c, .int .i64 o] w fun e w' => e = .returned (.bool (holdsB c o)) ∧ w' = w := by
  go_enter Try.func5, Try.ntmps5
  go_wp2
  all_goals (go_ret; exact ⟨ret_bool (by simp_all [holdsB]), rfl⟩)

set_option maxHeartbeats 400000 in
theorem neg_any (c : Int) (w : World) :
    Calls Try.prog 6 #[.int .u8 c] w fun e w' => e = .returned (.int .u8 (negC c)) ∧ w' = w := by
  go_enter Try.func6, Try.ntmps6
  go_wp2
  all_goals (go_ret; exact ⟨ret_int (by simp_all [negC]), rfl⟩)

set_option maxHeartbeats 400000 in
theorem sgn_any (x : Int) (w : World) :
    Calls Try.prog 7 #[.int .i64 x] w fun e w' => e = .returned (.int .i64 (sgn x)) ∧ w' = w := by
  go_enter Try.func7, Try.ntmps7
  go_wp2
  all_goals (go_ret; exact ⟨ret_int (by unfold sgn; first | rw [if_pos (by omega)] | rw [if_neg (by omega), if_pos (by omega)] | rw [if_neg (by omega), if_neg (by omega)]), rfl⟩)

set_option maxHeartbeats 400000 in
theorem conv_any (c : Int) (w : World) :
    Calls Try.prog 8 #[.int .u8 c] w fun e w' => e = .returned (.int .u8 (convC c)) ∧ w' = w := by
  go_enter Try.func8, Try.ntmps8
  go_wp2
  all_goals (go_ret; exact ⟨ret_int (by simp_all [convC]), rfl⟩)

/-! ### The plain laws -/
theorem holds1 (o : Int) : holdsB 1 o = decide (o = 0) := by rw [Bool.eq_iff_iff]; simp [holdsB]
theorem holds2 (o : Int) : holdsB 2 o = decide (o ≠ 0) := by rw [Bool.eq_iff_iff]; simp [holdsB]
theorem holds3 (o : Int) : holdsB 3 o = decide (o < 0) := by simp [holdsB]
theorem holds4 (o : Int) : holdsB 4 o = decide (o ≤ 0) := by simp [holdsB]
theorem holds5 (o : Int) : holdsB 5 o = decide (0 < o) := by simp [holdsB]
theorem holds6 (o : Int) : holdsB 6 o = decide (0 ≤ o) := by simp [holdsB]
theorem holds_out (c o : Int) (h : c < 1 ∨ 6 < c) : holdsB c o = false := by
  unfold holdsB
  rw [if_neg (by omega), if_neg (by omega), if_neg (by omega), if_neg (by omega), if_neg (by omega), if_neg (by omega)]
theorem neg_law (c o : Int) (h1 : 1 ≤ c) (h2 : c ≤ 6) : (holdsB c o != holdsB (negC c) o) = true := by
  have h : c = 1 ∨ c = 2 ∨ c = 3 ∨ c = 4 ∨ c = 5 ∨ c = 6 := by omega
  rcases h with h | h | h | h | h | h <;> subst h <;> rw [bne_iff_ne, ne_eq, Bool.eq_iff_iff] <;> simp [negC, holdsB] <;> omega
theorem sgn_law (c o : Int) : holdsB c (sgn o) = holdsB c o := by
  rw [Bool.eq_iff_iff]
  unfold sgn holdsB
  by_cases a : o < 0
  · rw [if_pos a]; repeat' split
    all_goals simp
    all_goals omega
  · rw [if_neg a]
    by_cases b : 0 < o
    · rw [if_pos b]; repeat' split
      all_goals simp
      all_goals omega
    · rw [if_neg b]; repeat' split
      all_goals simp
      all_goals omega
theorem sgn_bd (o : Int) : -1 ≤ sgn o ∧ sgn o ≤ 1 := by
  unfold sgn; repeat' split
  all_goals omega
theorem conv_law (c o : Int) : holdsB (convC c) (-sgn o) = holdsB c o := by
  rw [← sgn_law c o]
  have hs : sgn o = -1 ∨ sgn o = 0 ∨ sgn o = 1 := by
    unfold sgn; repeat' split
    all_goals omega
  by_cases h : 1 ≤ c ∧ c ≤ 6
  · have h' : c = 1 ∨ c = 2 ∨ c = 3 ∨ c = 4 ∨ c = 5 ∨ c = 6 := by omega
    rcases h' with h | h | h | h | h | h <;> subst h <;> rcases hs with h | h | h <;> rw [h] <;> decide
  · have e : convC c = c := by
      unfold convC
      rw [if_neg (by omega), if_neg (by omega), if_neg (by omega), if_neg (by omega)]
    rw [e, holds_out _ _ (by omega), holds_out _ _ (by omega)]
end Go.Proofs.Qxb6627194a
