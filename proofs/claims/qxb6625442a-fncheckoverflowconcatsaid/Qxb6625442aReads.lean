import Derived.Test.Qxb6625442aBase
namespace Go.Proofs.Qxb6625442a
open Go.RowKit

set_option maxHeartbeats 400000 in
theorem count_any (a : Option Addr) (len cap : Nat) (q : Nat → Qt) (w : World) (hl : len ≤ maxLen) (hq : IsQ w a len q) :
    Calls Try.prog 10 #[.slice a len cap] w fun e w' => e = .returned (.int .i64 (cnt q len)) ∧ w' = w := by
  unfold maxLen at hl
  go_enter Try.func10, Try.ntmps10
  go_wp2
  go_loop [3, 4] (fun n i => ∃ k : Nat, k ≤ len ∧ i = .int .i64 k ∧ n = .int .i64 (cnt q k)) (fun _ i => len - (intOf i).toNat)
  case atStart => exact ⟨0, Nat.zero_le _, rfl, rfl⟩
  case round =>
    obtain ⟨k, hk, rfl, rfl⟩ := hrel
    have hc := cnt_le q k
    by_cases hlt : k < len
    · obtain ⟨b, off, rfl, h0, h1, -, -⟩ := hq k hlt
      clear hq
      by_cases hm : 9007199254740991 < (q k).cp
      · go_wp2
        go_round
        case rel => exact ⟨k + 1, by omega, by go_num, by rw [cnt_hit q k hm]; go_num⟩
        case measure => simp [intOf]; omega
      · go_wp2
        go_round
        case rel => exact ⟨k + 1, by omega, by go_num, by rw [cnt_miss q k (by omega)]⟩
        case measure => simp [intOf]; omega
    · go_wp2
      go_ret
      exact ⟨ret_int (by rw [show k = len by omega]), rfl⟩

set_option maxHeartbeats 400000 in
theorem first_none (a : Option Addr) (len cap : Nat) (g : Nat → Al) (t : ByteArray) (w : World) (hl : len ≤ maxLen) (hg : IsA w a len g) (hn : ∀ j, j < len → hit g t j = false) :
    Calls Try.prog 11 #[.slice a len cap, .string t, .int .i64 (-1)] w fun e w' => e = .returned (.bool true) ∧ w' = w := by
  unfold maxLen at hl
  go_enter Try.func11, Try.ntmps11
  go_wp2
  go_loop [7] (fun i => ∃ k : Nat, k ≤ len ∧ i = .int .i64 k) (fun i => len - (intOf i).toNat)
  case atStart => exact ⟨0, Nat.zero_le _, rfl⟩
  case round =>
    obtain ⟨k, hk, rfl⟩ := hrel
    by_cases hlt : k < len
    · obtain ⟨b, off, rfl, h0, h1⟩ := hg k hlt
      have hh := hn k hlt
      clear hg hn
      go_wp2
      go_round
      case rel => exact ⟨k + 1, by omega, by go_num⟩
      case measure => simp [intOf]; omega
    · go_wp2
      go_ret
      exact ⟨rfl, rfl⟩

set_option maxHeartbeats 400000 in
theorem first_at (a : Option Addr) (len cap : Nat) (g : Nat → Al) (t : ByteArray) (m : Nat) (w : World) (hl : len ≤ maxLen) (hg : IsA w a len g) (hm : m < len) (ht : hit g t m = true) (hn : ∀ j, j < m → hit g t j = false) :
    Calls Try.prog 11 #[.slice a len cap, .string t, .int .i64 (m : Int)] w fun e w' => e = .returned (.bool true) ∧ w' = w := by
  unfold maxLen at hl
  obtain ⟨b, off, rfl, h0, -⟩ := hg m hm
  have e1 : ((m : Int) == -1) = false := by simp
  go_enter Try.func11, Try.ntmps11
  go_wp2
  go_loop [8] (fun i => ∃ k : Nat, k ≤ m ∧ i = .int .i64 k) (fun i => m - (intOf i).toNat)
  case atStart => exact ⟨0, Nat.zero_le _, rfl⟩
  case round =>
    obtain ⟨k, hk, rfl⟩ := hrel
    by_cases hlt : k < m
    · obtain ⟨b', off', e', h0', h1'⟩ := hg k (by omega)
      simp only [Option.some.injEq, Addr.mk.injEq, and_true] at e'
      obtain ⟨rfl, rfl⟩ := e'
      have hh := hn k hlt
      clear hg hn
      go_wp2
      go_round
      case rel => exact ⟨k + 1, by omega, by go_num⟩
      case measure => simp [intOf]; omega
    · go_wp2
      go_ret
      exact ⟨rfl, rfl⟩

/-- isFirstPlaceB1 at what lineOf answers. -/
theorem first_any (a : Option Addr) (len cap : Nat) (g : Nat → Al) (t : ByteArray) (w : World) (hl : len ≤ maxLen) (hg : IsA w a len g) :
    Calls Try.prog 11 #[.slice a len cap, .string t, .int .i64 (lineI g t len)] w fun e w' => e = .returned (.bool true) ∧ w' = w := by
  rcases line_cases g t len with ⟨h1, h2⟩ | ⟨m, h1, h2, h3, h4⟩
  · rw [h1]; exact first_none a len cap g t w hl hg h2
  · rw [h1]; exact first_at a len cap g t m w hl hg h2 h3 h4

set_option maxHeartbeats 400000 in
theorem line_any (a : Option Addr) (len cap : Nat) (g : Nat → Al) (t : ByteArray) (w : World) (hl : len ≤ maxLen) (hg : IsA w a len g) :
    Calls Try.prog 15 #[.slice a len cap, .string t] w fun e w' => e = .returned (.int .i64 (lineI g t len)) ∧ Below w.heap.size w w' := by
  unfold maxLen at hl
  go_enter Try.func15, Try.ntmps15
  go_wp2
  go_loopw [9] (fun i wr => ∃ k : Nat, k ≤ len ∧ i = .int .i64 k ∧ Below w.heap.size w wr ∧ ∀ j, j < k → hit g t j = false) (fun i _ => len - (intOf i).toNat)
  case atStart => exact ⟨0, Nat.zero_le _, rfl, Below.refl _ _, fun j hj => absurd hj (Nat.not_lt_zero _)⟩
  case round =>
    obtain ⟨k, hk, rfl, hb, hn⟩ := hrel
    by_cases hlt : k < len
    · obtain ⟨b, off, rfl, h0, h1⟩ := (hg.keep hb) k hlt
      have HN : Hid (∀ j, j < k → hit g t j = false) := hn
      clear hn
      by_cases hh : hit g t k = true
      · go_wp2
        go_ret
        exact ⟨ret_int (line_at g t len k hlt hh HN.out).symm, hb.alloc hb.size _⟩
      · have hh' : hit g t k = false := by simpa using hh
        clear hh
        go_wp2
        go_roundw
        case rel =>
          refine ⟨k + 1, by omega, by go_num, hb.alloc hb.size _, fun j hj => ?_⟩
          by_cases e : j < k
          · exact HN.out j e
          · obtain rfl : j = k := by omega
            exact hh'
        case measure => simp [intOf]; omega
    · go_wp2
      go_ret
      obtain rfl : k = len := by omega
      exact ⟨ret_int (line_none g t k hn).symm, hb⟩
end Go.Proofs.Qxb6625442a
