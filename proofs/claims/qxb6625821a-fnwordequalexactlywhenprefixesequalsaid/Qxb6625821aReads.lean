/-
  Seat b6625821a: the walk of FnWordReadsFirstEightBytesLittleEndian.
-/
import Derived.Test.Qxb6625821aBase
import Derived.RowKit3
namespace Go.Proofs.Qxb6625821a
open Go.RowKit

/-- A guard's answer: a bool, the world as it was; and where it is true, P holds. -/
def Guard (w : World) (P : Prop) (e : Ending) (w' : World) : Prop := ∃ r, e = .returned (.bool r) ∧ w' = w ∧ (r = true → P)
theorem Guard.no (w : World) (P : Prop) : Guard w P (.returned (.bool false)) w := ⟨false, rfl, rfl, fun h => by simp at h⟩
theorem Guard.yes (w : World) {P : Prop} (h : P) : Guard w P (.returned (.bool true)) w := ⟨true, rfl, rfl, fun _ => h⟩

set_option maxHeartbeats 400000 in
theorem bytes5 (s t : ByteArray) (w : World) (hs : s.size ≤ maxLen) (ht : t.size ≤ maxLen) :
    Calls Try.prog 5 #[.string s, .string t] w (Guard w (s.size + t.size ≤ 1048576)) := by
  unfold maxLen at hs ht
  by_cases c1 : s.size ≤ 1048576
  · by_cases c2 : t.size ≤ 1048576
    · by_cases c3 : (s.size : Int) + (t.size : Int) ≤ 1048576
      · go_enter Try.func5, Try.ntmps5
        go_wp2
        go_ret
        exact Guard.yes _ (by first | omega | trivial)
      · go_enter Try.func5, Try.ntmps5
        go_wp2
        go_ret
        exact Guard.no _ _
    · go_enter Try.func5, Try.ntmps5
      go_wp2
      go_ret
      exact Guard.no _ _
  · go_enter Try.func5, Try.ntmps5
    go_wp2
    go_ret
    exact Guard.no _ _
set_option maxHeartbeats 400000 in
theorem bytes7 (s t : ByteArray) (w : World) (hs : s.size ≤ maxLen) (ht : t.size ≤ maxLen) :
    Calls Try.prog 7 #[.string s, .string t] w (Guard w (s.size + t.size ≤ 1048576)) := by
  unfold maxLen at hs ht
  by_cases c1 : s.size ≤ 1048576
  · by_cases c2 : t.size ≤ 1048576
    · by_cases c3 : (s.size : Int) + (t.size : Int) ≤ 1048576
      · go_enter Try.func7, Try.ntmps7
        go_wp2
        go_ret
        exact Guard.yes _ (by first | omega | trivial)
      · go_enter Try.func7, Try.ntmps7
        go_wp2
        go_ret
        exact Guard.no _ _
    · go_enter Try.func7, Try.ntmps7
      go_wp2
      go_ret
      exact Guard.no _ _
  · go_enter Try.func7, Try.ntmps7
    go_wp2
    go_ret
    exact Guard.no _ _

theorem bt_data (s : ByteArray) (i : Nat) : bt s i = ((s.data.toList[i]?).map UInt8.toNat).getD 0 := by
  unfold bt
  split
  · rename_i h
    rw [List.getElem?_eq_getElem (by simpa using h)]
    rfl
  · rename_i h
    rw [List.getElem?_eq_none (by simpa using h)]
    rfl
theorem cut_bt (s t : ByteArray) (h8 : 8 ≤ s.size) (i : Nat) (hi : i < 8) : bt (s.extract 0 8 ++ t) i = bt s i := by
  rw [bt_data, bt_data]
  have e : (s.extract 0 8 ++ t).data.toList = s.data.toList.take 8 ++ t.data.toList := by
    rw [ByteArray.data_append, Array.toList_append, ByteArray.data_extract]
    simp
  have hl : 8 ≤ s.data.toList.length := by simpa using h8
  rw [e, List.getElem?_append_left (by rw [List.length_take]; omega), List.getElem?_take, if_pos hi]
theorem cut_word (s t : ByteArray) (h8 : 8 ≤ s.size) : wordN (s.extract 0 8 ++ t) = wordN s := by
  unfold wordN
  rw [cut_bt s t h8 0 (by decide), cut_bt s t h8 1 (by decide), cut_bt s t h8 2 (by decide), cut_bt s t h8 3 (by decide), cut_bt s t h8 4 (by decide), cut_bt s t h8 5 (by decide), cut_bt s t h8 6 (by decide), cut_bt s t h8 7 (by decide)]
theorem cut_size (s t : ByteArray) (h8 : 8 ≤ s.size) : 8 ≤ (s.extract 0 8 ++ t).size := by
  rw [ByteArray.size_append, ByteArray.size_extract]; omega
theorem zzword_cut (s t : ByteArray) (w : World) (h8 : 8 ≤ s.size) :
    Calls Try.prog 6 #[.string (s.extract 0 8 ++ t)] w fun e w' => e = .returned (.int .u64 (wordN s : Int)) ∧ ∃ n, w' = w.drewN n := by
  have h := zzword_any (s.extract 0 8 ++ t) w (cut_size s t h8)
  rw [cut_word s t h8] at h
  exact h

theorem byte0 (s : ByteArray) (h : 0 < s.size) : ((((wordN s : Nat) : Int) % 256) != ((s[0]'h).toNat : Int)) = false := by
  rw [bt_eq s 0 h, bne_eq_false_iff_eq]
  unfold wordN le8
  have h0 := bt_lt s 0
  have h1 := bt_lt s 1
  have h2 := bt_lt s 2
  have h3 := bt_lt s 3
  have h4 := bt_lt s 4
  have h5 := bt_lt s 5
  have h6 := bt_lt s 6
  have h7 := bt_lt s 7
  omega
theorem byte1 (s : ByteArray) (h : 1 < s.size) : ((((wordN s : Nat) : Int) / 256 % 256) != ((s[1]'h).toNat : Int)) = false := by
  rw [bt_eq s 1 h, bne_eq_false_iff_eq]
  unfold wordN le8
  have h0 := bt_lt s 0
  have h1 := bt_lt s 1
  have h2 := bt_lt s 2
  have h3 := bt_lt s 3
  have h4 := bt_lt s 4
  have h5 := bt_lt s 5
  have h6 := bt_lt s 6
  have h7 := bt_lt s 7
  omega
theorem byte2 (s : ByteArray) (h : 2 < s.size) : ((((wordN s : Nat) : Int) / 65536 % 256) != ((s[2]'h).toNat : Int)) = false := by
  rw [bt_eq s 2 h, bne_eq_false_iff_eq]
  unfold wordN le8
  have h0 := bt_lt s 0
  have h1 := bt_lt s 1
  have h2 := bt_lt s 2
  have h3 := bt_lt s 3
  have h4 := bt_lt s 4
  have h5 := bt_lt s 5
  have h6 := bt_lt s 6
  have h7 := bt_lt s 7
  omega
theorem byte3 (s : ByteArray) (h : 3 < s.size) : ((((wordN s : Nat) : Int) / 16777216 % 256) != ((s[3]'h).toNat : Int)) = false := by
  rw [bt_eq s 3 h, bne_eq_false_iff_eq]
  unfold wordN le8
  have h0 := bt_lt s 0
  have h1 := bt_lt s 1
  have h2 := bt_lt s 2
  have h3 := bt_lt s 3
  have h4 := bt_lt s 4
  have h5 := bt_lt s 5
  have h6 := bt_lt s 6
  have h7 := bt_lt s 7
  omega
theorem byte4 (s : ByteArray) (h : 4 < s.size) : ((((wordN s : Nat) : Int) / 4294967296 % 256) != ((s[4]'h).toNat : Int)) = false := by
  rw [bt_eq s 4 h, bne_eq_false_iff_eq]
  unfold wordN le8
  have h0 := bt_lt s 0
  have h1 := bt_lt s 1
  have h2 := bt_lt s 2
  have h3 := bt_lt s 3
  have h4 := bt_lt s 4
  have h5 := bt_lt s 5
  have h6 := bt_lt s 6
  have h7 := bt_lt s 7
  omega
theorem byte5 (s : ByteArray) (h : 5 < s.size) : ((((wordN s : Nat) : Int) / 1099511627776 % 256) != ((s[5]'h).toNat : Int)) = false := by
  rw [bt_eq s 5 h, bne_eq_false_iff_eq]
  unfold wordN le8
  have h0 := bt_lt s 0
  have h1 := bt_lt s 1
  have h2 := bt_lt s 2
  have h3 := bt_lt s 3
  have h4 := bt_lt s 4
  have h5 := bt_lt s 5
  have h6 := bt_lt s 6
  have h7 := bt_lt s 7
  omega
theorem byte6 (s : ByteArray) (h : 6 < s.size) : ((((wordN s : Nat) : Int) / 281474976710656 % 256) != ((s[6]'h).toNat : Int)) = false := by
  rw [bt_eq s 6 h, bne_eq_false_iff_eq]
  unfold wordN le8
  have h0 := bt_lt s 0
  have h1 := bt_lt s 1
  have h2 := bt_lt s 2
  have h3 := bt_lt s 3
  have h4 := bt_lt s 4
  have h5 := bt_lt s 5
  have h6 := bt_lt s 6
  have h7 := bt_lt s 7
  omega
theorem byte7 (s : ByteArray) (h : 7 < s.size) : ((((wordN s : Nat) : Int) / 72057594037927936 % 256) != ((s[7]'h).toNat : Int)) = false := by
  rw [bt_eq s 7 h, bne_eq_false_iff_eq]
  unfold wordN le8
  have h0 := bt_lt s 0
  have h1 := bt_lt s 1
  have h2 := bt_lt s 2
  have h3 := bt_lt s 3
  have h4 := bt_lt s 4
  have h5 := bt_lt s 5
  have h6 := bt_lt s 6
  have h7 := bt_lt s 7
  omega

set_option maxHeartbeats 1600000 in
theorem reads_main (s t : ByteArray) (w : World) (hsum : s.size + t.size ≤ 1048576) (h8 : 8 ≤ s.size) :
    Calls Try.prog 3 #[.string s, .string t] w fun e w' => e = .returned (.bool true) ∧ Below w.heap.size w w' := by
  go_enter Try.func3, Try.ntmps3
  go_wp2_with fail
  refine (bytes5 s t _ (by unfold maxLen; omega) (by unfold maxLen; omega)).mono ?_
  rintro e w' ⟨r, rfl, hw, hP⟩
  have hw' := hw.symm
  subst hw'
  clear hw hP
  cases r
  · go_wp2
    go_ret
    exact ⟨rfl, Below.refl _ _⟩
  go_wp2_with fail
  refine (zzword_any s _ h8).mono ?_
  rintro e w1 ⟨rfl, n1, rfl⟩
  go_wp2_with fail
  refine (zzword_cut s t _ h8).mono ?_
  rintro e w2 ⟨rfl, n2, rfl⟩
  obtain ⟨W, hW⟩ : ∃ W, W = wordN s := ⟨_, rfl⟩
  rw [← hW]
  have HW : Hid (W = wordN s) := hW
  clear hW
  go_wp2_with fail
  go_loop [6] (fun i => ∃ k : Nat, k ≤ 8 ∧ i = .int .i64 k) (fun i => 8 - (intOf i).toNat)
  case atStart => exact ⟨0, by omega, rfl⟩
  case round =>
    obtain ⟨k, hk, rfl⟩ := hrel
    have hcase : k = 0 ∨ k = 1 ∨ k = 2 ∨ k = 3 ∨ k = 4 ∨ k = 5 ∨ k = 6 ∨ k = 7 ∨ k = 8 := by omega
    rcases hcase with rfl | rfl | rfl | rfl | rfl | rfl | rfl | rfl | rfl
    · have hy : (((W : Int) % 256) != ((s[0]'(by omega)).toNat : Int)) = false := by rw [HW.out]; exact byte0 s (by omega)
      go_wp2
      go_round
      case rel => exact ⟨1, by omega, by go_num⟩
      case measure => simp [intOf]
    · have hy : (((W : Int) / 256 % 256) != ((s[1]'(by omega)).toNat : Int)) = false := by rw [HW.out]; exact byte1 s (by omega)
      go_wp2
      go_round
      case rel => exact ⟨2, by omega, by go_num⟩
      case measure => simp [intOf]
    · have hy : (((W : Int) / 65536 % 256) != ((s[2]'(by omega)).toNat : Int)) = false := by rw [HW.out]; exact byte2 s (by omega)
      go_wp2
      go_round
      case rel => exact ⟨3, by omega, by go_num⟩
      case measure => simp [intOf]
    · have hy : (((W : Int) / 16777216 % 256) != ((s[3]'(by omega)).toNat : Int)) = false := by rw [HW.out]; exact byte3 s (by omega)
      go_wp2
      go_round
      case rel => exact ⟨4, by omega, by go_num⟩
      case measure => simp [intOf]
    · have hy : (((W : Int) / 4294967296 % 256) != ((s[4]'(by omega)).toNat : Int)) = false := by rw [HW.out]; exact byte4 s (by omega)
      go_wp2
      go_round
      case rel => exact ⟨5, by omega, by go_num⟩
      case measure => simp [intOf]
    · have hy : (((W : Int) / 1099511627776 % 256) != ((s[5]'(by omega)).toNat : Int)) = false := by rw [HW.out]; exact byte5 s (by omega)
      go_wp2
      go_round
      case rel => exact ⟨6, by omega, by go_num⟩
      case measure => simp [intOf]
    · have hy : (((W : Int) / 281474976710656 % 256) != ((s[6]'(by omega)).toNat : Int)) = false := by rw [HW.out]; exact byte6 s (by omega)
      go_wp2
      go_round
      case rel => exact ⟨7, by omega, by go_num⟩
      case measure => simp [intOf]
    · have hy : (((W : Int) / 72057594037927936 % 256) != ((s[7]'(by omega)).toNat : Int)) = false := by rw [HW.out]; exact byte7 s (by omega)
      go_wp2
      go_round
      case rel => exact ⟨8, by omega, by go_num⟩
      case measure => simp [intOf]
    · go_wp2
      go_ret
      exact ⟨rfl, below_drewN (Below.refl _ _) _⟩

set_option maxHeartbeats 1600000 in
theorem reads_walk (s t : ByteArray) (w : World) (hs : s.size ≤ maxLen) (ht : t.size ≤ maxLen) :
    Calls Try.prog 3 #[.string s, .string t] w fun e w' => e = .returned (.bool true) ∧ Below w.heap.size w w' := by
  by_cases c1 : s.size + t.size ≤ 1048576
  · by_cases c2 : 8 ≤ s.size
    · exact reads_main s t w c1 c2
    · go_enter Try.func3, Try.ntmps3
      go_wp2_with fail
      refine (bytes5 s t _ hs ht).mono ?_
      rintro e w' ⟨r, rfl, hw, -⟩
      have hw' := hw.symm
      subst hw'
      clear hw
      cases r
      · go_wp2
        go_ret
        exact ⟨rfl, Below.refl _ _⟩
      · go_wp2
        go_ret
        exact ⟨rfl, Below.refl _ _⟩
  · go_enter Try.func3, Try.ntmps3
    go_wp2_with fail
    refine (bytes5 s t _ hs ht).mono ?_
    rintro e w' ⟨r, rfl, hw, hP⟩
    have hw' := hw.symm
    subst hw'
    clear hw
    cases r
    · go_wp2
      go_ret
      exact ⟨rfl, Below.refl _ _⟩
    · exact absurd (hP rfl) c1
end Go.Proofs.Qxb6625821a
