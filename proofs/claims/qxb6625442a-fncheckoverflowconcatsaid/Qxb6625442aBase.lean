/-
  Seat b6625442a: plain data, and how a slice of quotas or allowances lies in memory.
-/
import Derived.Test.Qxb6625442aRows
import Derived.WalkKit
namespace Go.Proofs.Qxb6625442a
open Go.RowKit

/-- A quota: its type's text, capacity, committed, reserved. -/
structure Qt where
  ty : ByteArray
  cp : Int
  cm : Int
  rs : Int
/-- An allowance: its type's text, its amount. -/
structure Al where
  ty : ByteArray
  am : Int

/-- The slice at a, of len elements, reads as the quotas q 0 .. q (len-1). -/
def IsQ (w : World) (a : Option Addr) (len : Nat) (q : Nat → Qt) : Prop :=
  ∀ i, i < len → ∃ b off, a = some ⟨b, off, none⟩ ∧ w.cell? ⟨b, off + i * 4, none⟩ = some (.string (q i).ty) ∧ w.cell? ⟨b, off + i * 4 + 1, none⟩ = some (.int .i64 (q i).cp) ∧
    w.cell? ⟨b, off + i * 4 + 2, none⟩ = some (.int .i64 (q i).cm) ∧ w.cell? ⟨b, off + i * 4 + 3, none⟩ = some (.int .i64 (q i).rs)
def IsA (w : World) (a : Option Addr) (len : Nat) (q : Nat → Al) : Prop :=
  ∀ i, i < len → ∃ b off, a = some ⟨b, off, none⟩ ∧ w.cell? ⟨b, off + i * 2, none⟩ = some (.string (q i).ty) ∧ w.cell? ⟨b, off + i * 2 + 1, none⟩ = some (.int .i64 (q i).am)

theorem ret_bool {a b : Bool} (h : a = b) : Ending.returned (.bool a) = .returned (.bool b) := by rw [h]
theorem ret_int {k : IntKind} {a b : Int} (h : a = b) : Ending.returned (.int k a) = .returned (.int k b) := by rw [h]

/-- How many of the first k quotas are above MaxAmount. -/
def cnt (q : Nat → Qt) : Nat → Nat
  | 0 => 0
  | k + 1 => cnt q k + if 9007199254740991 < (q k).cp then 1 else 0
theorem cnt_le (q : Nat → Qt) (k : Nat) : cnt q k ≤ k := by
  induction k with
  | zero => simp [cnt]
  | succ k ih => unfold cnt; split <;> omega
theorem cnt_hit (q : Nat → Qt) (k : Nat) (h : 9007199254740991 < (q k).cp) : cnt q (k + 1) = cnt q k + 1 := by simp [cnt, h]
theorem cnt_miss (q : Nat → Qt) (k : Nat) (h : (q k).cp ≤ 9007199254740991) : cnt q (k + 1) = cnt q k := by
  have : ¬ 9007199254740991 < (q k).cp := by omega
  simp [cnt, this]

/-- Do the two texts agree? (in the walk's own form) -/
abbrev hit (g : Nat → Al) (t : ByteArray) (j : Nat) : Bool := (g j).ty.toList == t.toList
/-- The first place of t among the first n allowances, or -1. -/
def lineI (g : Nat → Al) (t : ByteArray) : Nat → Int
  | 0 => -1
  | n + 1 => if lineI g t n = -1 then (if hit g t n = true then (n : Int) else -1) else lineI g t n
theorem line_cases (g : Nat → Al) (t : ByteArray) (n : Nat) :
    (lineI g t n = -1 ∧ ∀ j, j < n → hit g t j = false) ∨ ∃ m : Nat, lineI g t n = (m : Int) ∧ m < n ∧ hit g t m = true ∧ ∀ j, j < m → hit g t j = false := by
  induction n with
  | zero => exact .inl ⟨rfl, fun j hj => absurd hj (Nat.not_lt_zero _)⟩
  | succ n ih =>
    rcases ih with ⟨h1, h2⟩ | ⟨m, h1, h2, h3, h4⟩
    · by_cases h : hit g t n = true
      · exact .inr ⟨n, by unfold lineI; rw [if_pos h1, if_pos h], Nat.lt_succ_self _, h, h2⟩
      · refine .inl ⟨by unfold lineI; rw [if_pos h1, if_neg h], fun j hj => ?_⟩
        by_cases e : j < n
        · exact h2 j e
        · obtain rfl : j = n := by omega
          simpa using h
    · exact .inr ⟨m, by unfold lineI; rw [if_neg (by omega), h1], by omega, h3, h4⟩
theorem line_none (g : Nat → Al) (t : ByteArray) (n : Nat) (h : ∀ j, j < n → hit g t j = false) : lineI g t n = -1 := by
  rcases line_cases g t n with ⟨h1, -⟩ | ⟨m, -, h2, h3, -⟩
  · exact h1
  · have := h m h2; rw [this] at h3; simp at h3
theorem line_at (g : Nat → Al) (t : ByteArray) (n m : Nat) (hm : m < n) (h : hit g t m = true) (hb : ∀ j, j < m → hit g t j = false) : lineI g t n = (m : Int) := by
  rcases line_cases g t n with ⟨h1, h2⟩ | ⟨m', h1, h2, h3, h4⟩
  · have := h2 m hm; rw [this] at h; simp at h
  · rcases Nat.lt_trichotomy m m' with e | e | e
    · have := h4 m e; rw [this] at h; simp at h
    · rw [h1, e]
    · have := hb m' e; rw [this] at h3; simp at h3
theorem line_bd (g : Nat → Al) (t : ByteArray) (n : Nat) : -1 ≤ lineI g t n ∧ lineI g t n < n := by
  rcases line_cases g t n with ⟨h1, -⟩ | ⟨m, h1, h2, -⟩ <;> omega

/-! ### What was read reads on: a cell that is there stays while nothing below the heap's size turns -/
theorem cell_keep {w w' : World} (h : Below w.heap.size w w') {a : Addr} {v : Value} (hc : w.cell? a = some v) : w'.cell? a = some v :=
  (h.cell (block_lt_of_cell hc)).trans hc
theorem IsQ.keep {w w' : World} {a : Option Addr} {len : Nat} {q : Nat → Qt} (hq : IsQ w a len q) (h : Below w.heap.size w w') : IsQ w' a len q := by
  intro i hi
  obtain ⟨b, off, e, h0, h1, h2, h3⟩ := hq i hi
  exact ⟨b, off, e, cell_keep h h0, cell_keep h h1, cell_keep h h2, cell_keep h h3⟩
theorem IsA.keep {w w' : World} {a : Option Addr} {len : Nat} {q : Nat → Al} (hq : IsA w a len q) (h : Below w.heap.size w w') : IsA w' a len q := by
  intro i hi
  obtain ⟨b, off, e, h0, h1⟩ := hq i hi
  exact ⟨b, off, e, cell_keep h h0, cell_keep h h1⟩
end Go.Proofs.Qxb6625442a
