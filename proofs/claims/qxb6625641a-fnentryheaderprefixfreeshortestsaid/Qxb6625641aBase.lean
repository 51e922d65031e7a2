/-
  Seat b6625641a: the entry header, in plain numbers.
-/
import Derived.Test.Qxb6625641aRows
import Derived.WalkKit
import Derived.Laws.BitsLemmas
namespace Go.Proofs.Qxb6625641a
open Go.RowKit

/-- 2^(4+7j): how much the first j+1 bytes can hold. -/
def pw : Nat → Nat
  | 0 => 16
  | j + 1 => pw j * 128
theorem pw_pos (j : Nat) : 0 < pw j := by
  induction j with
  | zero => decide
  | succ j ih => unfold pw; omega
theorem pw_succ (j : Nat) : pw (j + 1) = pw j * 128 := rfl
theorem pw_pow (j : Nat) : pw j = 2 ^ (4 + 7 * j) := by
  induction j with
  | zero => decide
  | succ j ih => rw [pw_succ, ih, show 4 + 7 * (j + 1) = (4 + 7 * j) + 7 by omega, Nat.pow_add 2 (4 + 7 * j) 7]
theorem pw_mono {i j : Nat} (h : i ≤ j) : pw i ≤ pw j := by
  rw [pw_pow, pw_pow]
  exact Nat.pow_le_pow_right (by decide) (by omega)
/-- The i-th group, without the continuation bit. -/
def hb (t s : Nat) : Nat → Nat
  | 0 => t * 16 + s % 16
  | j + 1 => s / pw j % 128
theorem hb_lt (t s i : Nat) (ht : t ≤ 7) : hb t s i < 128 := by
  cases i with
  | zero => show t * 16 + s % 16 < 128; omega
  | succ j => show s / pw j % 128 < 128; omega
/-- The header of s takes n bytes. -/
structure IsLen (s n : Nat) : Prop where
  pos : 1 ≤ n
  big : ∀ j, j + 1 < n → pw j ≤ s
  fits : s < pw (n - 1)
theorem IsLen.le10 {s n : Nat} (h : IsLen s n) (hs : s < 9223372036854775808) : n ≤ 10 := by
  by_cases e : n ≤ 10
  · exact e
  · have := h.big 9 (by omega)
    have e : pw 9 = 147573952589676412928 := by decide
    omega
theorem IsLen.unique {s n m : Nat} (h : IsLen s n) (k : IsLen s m) : n = m := by
  rcases Nat.lt_trichotomy n m with e | e | e
  · have := k.big (n - 1) (by have := h.pos; omega); have := h.fits; omega
  · exact e
  · have := h.big (m - 1) (by have := k.pos; omega); have := k.fits; omega
/-- The i-th byte of the header of n bytes. -/
def hbyte (t s n i : Nat) : Nat := if i + 1 < n then hb t s i + 128 else hb t s i
theorem hbyte_lt (t s n i : Nat) (ht : t ≤ 7) : hbyte t s n i < 256 := by
  have := hb_lt t s i ht
  unfold hbyte
  split <;> omega
def hdv (t s n : Nat) : List Value := (List.range n).map fun i => .int .u8 (hbyte t s n i : Int)
/-- The first i bytes, each with its high bit. -/
def hpre (t s i : Nat) : List Value := (List.range i).map fun j => .int .u8 ((hb t s j + 128 : Nat) : Int)
theorem hdv_eq (t s i : Nat) : hdv t s (i + 1) = hpre t s i ++ [.int .u8 (hb t s i : Int)] := by
  unfold hdv hpre
  rw [List.range_succ, List.map_append]
  congr 1
  · refine List.map_congr_left fun j hj => ?_
    have := List.mem_range.1 hj
    unfold hbyte
    rw [if_pos (by omega)]
  · simp [hbyte]
theorem hpre_succ (t s i : Nat) : hpre t s (i + 1) = hpre t s i ++ [.int .u8 ((hb t s i + 128 : Nat) : Int)] := by
  unfold hpre
  rw [List.range_succ, List.map_append]
  rfl
theorem hdv_len (t s n : Nat) : (hdv t s n).length = n := by simp [hdv]
theorem hdv_at (t s n i : Nat) (h : i < n) : (hdv t s n)[i]? = some (.int .u8 (hbyte t s n i : Int)) := by
  simp [hdv, h]

/-! ### Bit facts, in the walk's forms -/
theorem and15 (s : Nat) (h : s < 9223372036854775808) : bits .and .i64 (s : Int) 15 = (s : Int) % 16 :=
  bits_mask .i64 63 (by decide) (fun n h0 h1 => by rw [IntKind.wrap_i64]; omega) 4 (by decide) s (by omega) (by omega)
theorem and127 (s : Nat) (h : s < 9223372036854775808) : bits .and .i64 (s : Int) 127 = (s : Int) % 128 :=
  bits_mask .i64 63 (by decide) (fun n h0 h1 => by rw [IntKind.wrap_i64]; omega) 7 (by decide) s (by omega) (by omega)
theorem orHead (t s : Nat) (ht : t ≤ 7) : bits .or .u8 ((t : Int) * 16) ((s : Int) % 16) = (t : Int) * 16 + (s : Int) % 16 :=
  bits_join .u8 8 (by decide) wraps_u8 4 _ _ (by omega) (by omega) (by omega) (by omega) (by omega) (by omega)
theorem or128 (b : Nat) (h : b < 128) : bits .or .u8 (b : Int) 128 = (b : Int) + 128 := by
  have h1 := (bits_nat .u8 8 (by decide) wraps_u8 b 128 (by omega) (by omega)).2
  have h2 : b ||| 128 = b + 128 := by
    rw [Nat.or_comm, show (128 : Nat) = 2 ^ 7 * 1 by decide, ← Nat.two_pow_add_eq_or_of_lt (by omega) 1]; omega
  rw [h2] at h1
  exact_mod_cast h1
end Go.Proofs.Qxb6625641a
