/-
  Seat b6625821a: word(s) as a number.
-/
import Derived.Test.Qxb6625821aRows
import Derived.WalkKit
import Derived.WalkSpells
import Derived.Deep.QuietTactic
import Derived.BigQuiet
import Derived.WalkSmall
import Derived.Lib.EndianBits
namespace Go.Proofs.Qxb6625821a
open Go.RowKit

/-- Eight bytes, the least first, as one number. -/
def le8 (b0 b1 b2 b3 b4 b5 b6 b7 : Nat) : Nat := b0 + b1 * 256 + b2 * 65536 + b3 * 16777216 + b4 * 4294967296 + b5 * 1099511627776 + b6 * 281474976710656 + b7 * 72057594037927936

theorem le8_bits (b0 b1 b2 b3 b4 b5 b6 b7 : Nat) (h0 : b0 < 256) (h1 : b1 < 256) (h2 : b2 < 256) (h3 : b3 < 256) (h4 : b4 < 256) (h5 : b5 < 256) (h6 : b6 < 256) (h7 : b7 < 256) :
    bits .or .u64 (bits .or .u64 (bits .or .u64 (bits .or .u64 (bits .or .u64 (bits .or .u64 (bits .or .u64 (IntKind.u64.wrap (b0 : Int)) (IntKind.u64.wrap (IntKind.u64.wrap (b1 : Int) * 256)))
      (IntKind.u64.wrap (IntKind.u64.wrap (b2 : Int) * 65536))) (IntKind.u64.wrap (IntKind.u64.wrap (b3 : Int) * 16777216))) (IntKind.u64.wrap (IntKind.u64.wrap (b4 : Int) * 4294967296)))
      (IntKind.u64.wrap (IntKind.u64.wrap (b5 : Int) * 1099511627776))) (IntKind.u64.wrap (IntKind.u64.wrap (b6 : Int) * 281474976710656))) (IntKind.u64.wrap (IntKind.u64.wrap (b7 : Int) * 72057594037927936)) =
    ((le8 b0 b1 b2 b3 b4 b5 b6 b7 : Nat) : Int) := by
  simp (disch := omega) only [u64_wrap_id, u64_or8, u64_or16, u64_or24, u64_or32, u64_or40, u64_or48, u64_or56]
  unfold le8
  omega

/-- The i-th byte of s (0 where there is none). -/
def bt (s : ByteArray) (i : Nat) : Nat := if h : i < s.size then (s[i]'h).toNat else 0
theorem bt_lt (s : ByteArray) (i : Nat) : bt s i < 256 := by
  unfold bt
  split
  · exact UInt8.toNat_lt _
  · decide
theorem bt_eq (s : ByteArray) (i : Nat) (h : i < s.size) : (s[i]'h).toNat = bt s i := by
  unfold bt; rw [dif_pos h]
def wordN (s : ByteArray) : Nat := le8 (bt s 0) (bt s 1) (bt s 2) (bt s 3) (bt s 4) (bt s 5) (bt s 6) (bt s 7)
theorem ret_u64 {a b : Int} (h : a = b) : Ending.returned (.int .u64 a) = .returned (.int .u64 b) := by rw [h]

set_option maxRecDepth 100000 in
set_option maxHeartbeats 1000000 in
theorem word_any (s : ByteArray) (w : World) (h8 : 8 ≤ s.size) :
    Calls Try.prog 8 #[.string s] w fun e w' => e = .returned (.int .u64 (wordN s : Int)) ∧ ∃ n, w' = w.drewN n := by
  have q0 : 0 < s.size := by omega
  have q1 : (1 : Int) < (s.size : Int) := by omega
  have q2 : (2 : Int) < (s.size : Int) := by omega
  have q3 : (3 : Int) < (s.size : Int) := by omega
  have q4 : (4 : Int) < (s.size : Int) := by omega
  have q5 : (5 : Int) < (s.size : Int) := by omega
  have q6 : (6 : Int) < (s.size : Int) := by omega
  have q7 : (7 : Int) < (s.size : Int) := by omega
  go_enter Try.func8, Try.ntmps8
  go_wp2
  go_quiet (fail)
  go_wp2
  go_ret
  refine ⟨ret_u64 ?_, nq, rfl⟩
  have h := le8_bits _ _ _ _ _ _ _ _ (bt_lt s 0) (bt_lt s 1) (bt_lt s 2) (bt_lt s 3) (bt_lt s 4) (bt_lt s 5) (bt_lt s 6) (bt_lt s 7)
  rw [← bt_eq s 0 (by omega), ← bt_eq s 1 (by omega), ← bt_eq s 2 (by omega), ← bt_eq s 3 (by omega), ← bt_eq s 4 (by omega), ← bt_eq s 5 (by omega), ← bt_eq s 6 (by omega), ← bt_eq s 7 (by omega)] at h
  refine Eq.trans h ?_
  rw [bt_eq, bt_eq, bt_eq, bt_eq, bt_eq, bt_eq, bt_eq, bt_eq]
  rfl

theorem zzword_any (s : ByteArray) (w : World) (h8 : 8 ≤ s.size) :
    Calls Try.prog 6 #[.string s] w fun e w' => e = .returned (.int .u64 (wordN s : Int)) ∧ ∃ n, w' = w.drewN n := by
  go_enter Try.func6, Try.ntmps6
  go_wp2_with fail
  refine (word_any s _ h8).mono ?_
  rintro e w1 ⟨rfl, n, rfl⟩
  go_wp2
  go_ret
  exact ⟨rfl, n, rfl⟩
end Go.Proofs.Qxb6625821a
