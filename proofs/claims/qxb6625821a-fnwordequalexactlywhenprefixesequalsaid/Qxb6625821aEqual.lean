/-
  Seat b6625821a: the walk of FnWordEqualExactlyWhenPrefixesEqual.
-/
import Derived.Test.Qxb6625821aReads
namespace Go.Proofs.Qxb6625821a
open Go.RowKit

/-- Do the first k bytes agree? -/
def agree (a b : ByteArray) : Nat → Bool
  | 0 => true
  | k + 1 => agree a b k && (bt a k == bt b k)
theorem agree_hit (a b : ByteArray) (k : Nat) (h : bt a k = bt b k) : agree a b (k + 1) = agree a b k := by simp [agree, h]
theorem agree_miss (a b : ByteArray) (k : Nat) (h : bt a k ≠ bt b k) : agree a b (k + 1) = false := by simp [agree, h]
theorem agree_word (a b : ByteArray) : ((wordN a : Int) == (wordN b : Int)) = agree a b 8 := by
  rw [Bool.eq_iff_iff, beq_iff_eq]
  simp only [agree, Bool.and_eq_true, beq_iff_eq, true_and]
  unfold wordN le8
  have a0 := bt_lt a 0
  have a1 := bt_lt a 1
  have a2 := bt_lt a 2
  have a3 := bt_lt a 3
  have a4 := bt_lt a 4
  have a5 := bt_lt a 5
  have a6 := bt_lt a 6
  have a7 := bt_lt a 7
  have b0 := bt_lt b 0
  have b1 := bt_lt b 1
  have b2 := bt_lt b 2
  have b3 := bt_lt b 3
  have b4 := bt_lt b 4
  have b5 := bt_lt b 5
  have b6 := bt_lt b 6
  have b7 := bt_lt b 7
  constructor
  · intro h
    omega
  · rintro ⟨⟨⟨⟨⟨⟨⟨h0, h1⟩, h2⟩, h3⟩, h4⟩, h5⟩, h6⟩, h7⟩
    rw [h0, h1, h2, h3, h4, h5, h6, h7]

set_option maxHeartbeats 1600000 in
theorem equal_main (a b : ByteArray) (w : World) (hsum : a.size + b.size ≤ 1048576) (h8 : 8 ≤ a.size) (h8' : 8 ≤ b.size) :
    Calls Try.prog 4 #[.string a, .string b] w fun e w' => e = .returned (.bool true) ∧ Below w.heap.size w w' := by
  go_enter Try.func4, Try.ntmps4
  go_wp2_with fail
  refine (bytes7 a b _ (by unfold maxLen; omega) (by unfold maxLen; omega)).mono ?_
  rintro e w' ⟨r, rfl, hw, hP⟩
  have hw' := hw.symm
  subst hw'
  clear hw hP
  cases r
  · go_wp2
    go_ret
    exact ⟨rfl, Below.refl _ _⟩
  go_wp2_with fail
  refine (zzword_any a _ h8).mono ?_
  rintro e w1 ⟨rfl, n1, rfl⟩
  go_wp2_with fail
  refine (zzword_any b _ h8').mono ?_
  rintro e w2 ⟨rfl, n2, rfl⟩
  obtain ⟨Wa, hWa⟩ : ∃ W, W = wordN a := ⟨_, rfl⟩
  obtain ⟨Wb, hWb⟩ : ∃ W, W = wordN b := ⟨_, rfl⟩
  rw [← hWa, ← hWb]
  have HA : Hid (Wa = wordN a) := hWa
  have HB : Hid (Wb = wordN b) := hWb
  clear hWa hWb
  go_wp2_with fail
  go_loopw [7, 8] (fun sm i wr => ∃ k : Nat, k ≤ 8 ∧ i = .int .i64 k ∧ sm = .bool (agree a b k) ∧ Below w.heap.size w wr) (fun _ i _ => 8 - (intOf i).toNat)
  case atStart => exact ⟨0, by omega, rfl, rfl, below_drewN (Below.refl _ _) _⟩
  case round =>
    obtain ⟨k, hk, rfl, rfl, hb⟩ := hrel
    by_cases hlt : k < 8
    · have q1 : (k : Int) < (a.size : Int) := by omega
      have q2 : (k : Int) < (b.size : Int) := by omega
      have hi0 : (0 : Int) ≤ (k : Int) := Int.natCast_nonneg _
      have r1 : k < a.size := by omega
      have r2 : k < b.size := by omega
      by_cases he : bt a k = bt b k
      · have hn : (((a[k]'r1).toNat : Int) != ((b[k]'r2).toNat : Int)) = false := by rw [bt_eq a k r1, bt_eq b k r2, bne_eq_false_iff_eq, he]
        have HG : Hid (agree a b (k + 1) = agree a b k) := agree_hit a b k he
        clear he
        go_wp2
        go_quiet (fail)
        go_wp2
        go_roundw
        case rel => exact ⟨k + 1, by omega, by go_num, by rw [HG.out], below_drewN hb _⟩
        case measure => simp [intOf]; omega
      · have hn : (((a[k]'r1).toNat : Int) != ((b[k]'r2).toNat : Int)) = true := by rw [bt_eq a k r1, bt_eq b k r2, bne_iff_ne]; omega
        have HG : Hid (agree a b (k + 1) = false) := agree_miss a b k he
        clear he
        go_wp2
        go_quiet (fail)
        go_wp2
        go_roundw
        case rel => exact ⟨k + 1, by omega, by go_num, by rw [HG.out], below_drewN hb _⟩
        case measure => simp [intOf]; omega
    · obtain rfl : k = 8 := by omega
      have he : ((Wa : Int) == (Wb : Int)) = agree a b 8 := by rw [HA.out, HB.out]; exact agree_word a b
      have y0 : (((Wa : Int) % 256) != ((a[0]'(by omega)).toNat : Int)) = false := by rw [HA.out]; exact byte0 a (by omega)
      have y7 : (((Wb : Int) / 72057594037927936 % 256) != ((b[7]'(by omega)).toNat : Int)) = false := by rw [HB.out]; exact byte7 b (by omega)
      have q0 : 0 < a.size := by omega
      have q7 : (7 : Int) < (b.size : Int) := by omega
      go_wp2
      go_ret
      exact ⟨rfl, hb⟩

set_option maxHeartbeats 1600000 in
theorem equal_walk (a b : ByteArray) (w : World) (hs : a.size ≤ maxLen) (ht : b.size ≤ maxLen) :
    Calls Try.prog 4 #[.string a, .string b] w fun e w' => e = .returned (.bool true) ∧ Below w.heap.size w w' := by
  by_cases c1 : a.size + b.size ≤ 1048576
  · by_cases c2 : 8 ≤ a.size
    · by_cases c3 : 8 ≤ b.size
      · exact equal_main a b w c1 c2 c3
      · go_enter Try.func4, Try.ntmps4
        go_wp2_with fail
        refine (bytes7 a b _ hs ht).mono ?_
        rintro e w' ⟨r, rfl, hw, -⟩
        have hw' := hw.symm
        subst hw'
        clear hw
        cases r
        · go_wp2
          go_ret
          exact ⟨rfl, Below.refl _ _⟩
        · go_wp2
          go_ret
          exact ⟨rfl, Below.refl _ _⟩
    · go_enter Try.func4, Try.ntmps4
      go_wp2_with fail
      refine (bytes7 a b _ hs ht).mono ?_
      rintro e w' ⟨r, rfl, hw, -⟩
      have hw' := hw.symm
      subst hw'
      clear hw
      cases r
      · go_wp2
        go_ret
        exact ⟨rfl, Below.refl _ _⟩
      · go_wp2
        go_ret
        exact ⟨rfl, Below.refl _ _⟩
  · go_enter Try.func4, Try.ntmps4
    go_wp2_with fail
    refine (bytes7 a b _ hs ht).mono ?_
    rintro e w' ⟨r, rfl, hw, hP⟩
    have hw' := hw.symm
    subst hw'
    clear hw
    cases r
    · go_wp2
      go_ret
      exact ⟨rfl, Below.refl _ _⟩
    · exact absurd (hP rfl) c1
end Go.Proofs.Qxb6625821a
