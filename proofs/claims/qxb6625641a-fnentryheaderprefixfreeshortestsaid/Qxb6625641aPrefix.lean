/-
  Seat b6625641a: zzBytesEqualB1, zzIsPrefixB1, zzHeaderLenB1; two headers part.
-/
import Derived.Test.Qxb6625641aDecode
import Derived.Deep.QuietTactic
import Derived.BigQuiet
import Derived.WalkSmall
namespace Go.Proofs.Qxb6625641a
open Go.RowKit

/-! ### The plain law: two headers that are not of one (type, size) part at a place that both have -/
theorem last_lt (T S m : Nat) (hT : T ≤ 7) : hbyte T S m (m - 1) < 128 := by
  unfold hbyte
  rw [if_neg (by omega)]
  exact hb_lt T S _ hT
theorem inner_ge (T S m i : Nat) (h : i + 1 < m) : 128 ≤ hbyte T S m i := by
  unfold hbyte
  rw [if_pos h]
  omega
theorem groups_eq {T1 S1 T2 S2 m i : Nat} (h : hbyte T1 S1 m i = hbyte T2 S2 m i) : hb T1 S1 i = hb T2 S2 i := by
  unfold hbyte at h
  split at h <;> omega
theorem sizes_eq {T1 S1 T2 S2 m : Nat} (h : ∀ i, i < m → hb T1 S1 i = hb T2 S2 i) (_hT1 : T1 ≤ 7) (_hT2 : T2 ≤ 7) (j : Nat) (hj : j < m) : T1 = T2 ∧ S1 % pw j = S2 % pw j := by
  induction j with
  | zero =>
    have h0 : T1 * 16 + S1 % 16 = T2 * 16 + S2 % 16 := h 0 hj
    show T1 = T2 ∧ S1 % 16 = S2 % 16
    omega
  | succ j ih =>
    obtain ⟨h1, h2⟩ := ih (by omega)
    refine ⟨h1, ?_⟩
    have h3 : S1 / pw j % 128 = S2 / pw j % 128 := h (j + 1) hj
    rw [pw_succ, Nat.mod_mul, Nat.mod_mul, h2, h3]
theorem parts {T1 S1 m1 T2 S2 m2 : Nat} (hT1 : T1 ≤ 7) (hT2 : T2 ≤ 7) (h1 : IsLen S1 m1) (h2 : IsLen S2 m2) (hne : ¬ (T1 = T2 ∧ S1 = S2)) :
    ∃ i, i < m1 ∧ i < m2 ∧ hbyte T1 S1 m1 i ≠ hbyte T2 S2 m2 i := by
  have p1 := h1.pos
  have p2 := h2.pos
  rcases Nat.lt_trichotomy m1 m2 with e | e | e
  · refine ⟨m1 - 1, by omega, by omega, ?_⟩
    have := last_lt T1 S1 m1 hT1
    have := inner_ge T2 S2 m2 (m1 - 1) (by omega)
    omega
  · subst e
    apply Classical.byContradiction
    intro hno
    apply hne
    have hall : ∀ i, i < m1 → hb T1 S1 i = hb T2 S2 i := fun i hi => by
      apply groups_eq (m := m1)
      apply Classical.byContradiction
      intro hc
      exact hno ⟨i, hi, hi, hc⟩
    obtain ⟨ht, hs⟩ := sizes_eq hall hT1 hT2 (m1 - 1) (by omega)
    rw [Nat.mod_eq_of_lt h1.fits, Nat.mod_eq_of_lt h2.fits] at hs
    exact ⟨ht, hs⟩
  · refine ⟨m2 - 1, by omega, by omega, ?_⟩
    have := last_lt T2 S2 m2 hT2
    have := inner_ge T1 S1 m1 (m2 - 1) (by omega)
    omega

theorem ret_i64 {a b : Int} (h : a = b) : Ending.returned (.int .i64 a) = .returned (.int .i64 b) := by rw [h]

/-! ### The walks -/
set_option maxHeartbeats 800000 in
theorem eq_yes (a1 a2 : Option Addr) (m c1 c2 : Nat) (z : Nat → Nat) (w : World) (hm : m ≤ 1048576) (h1 : IsB w a1 m z) (h2 : IsB w a2 m z) :
    Calls Try.prog 9 #[.slice a1 m c1, .slice a2 m c2] w fun e w' => e = .returned (.bool true) ∧ Below w.heap.size w w' := by
  go_enter Try.func9, Try.ntmps9
  go_wp2
  go_loopw [5] (fun i wr => ∃ k : Nat, k ≤ m ∧ i = .int .i64 k ∧ Below w.heap.size w wr) (fun i _ => m - (intOf i).toNat)
  case atStart => exact ⟨0, Nat.zero_le _, rfl, Below.refl _ _⟩
  case round =>
    obtain ⟨k, hk, rfl, hb⟩ := hrel
    by_cases hlt : k < m
    · obtain ⟨b, off, rfl, e1⟩ := (h1.keep hb) k hlt
      obtain ⟨b', off', rfl, e2⟩ := (h2.keep hb) k hlt
      have hi0 : (0 : Int) ≤ (k : Int) := Int.natCast_nonneg _
      have hi1 : (k : Int) < (m : Int) := by omega
      clear h1 h2
      go_wp2
      go_quiet (fail)
      go_wp2
      go_roundw
      case rel => exact ⟨k + 1, by omega, by go_num, below_drewN hb _⟩
      case measure => simp [intOf]; omega
    · go_wp2
      go_ret
      exact ⟨rfl, hb⟩

set_option maxHeartbeats 800000 in
theorem eq_no (a1 a2 : Option Addr) (m1 m2 c1 c2 : Nat) (z1 z2 : Nat → Nat) (w : World) (hm1 : m1 ≤ 1048576) (hm2 : m2 ≤ 1048576) (h1 : IsB w a1 m1 z1) (h2 : IsB w a2 m2 z2) (hd : ∃ i, i < m1 ∧ i < m2 ∧ z1 i ≠ z2 i) :
    Calls Try.prog 9 #[.slice a1 m1 c1, .slice a2 m2 c2] w fun e w' => e = .returned (.bool false) ∧ Below w.heap.size w w' := by
  by_cases hm : m1 = m2
  · subst hm
    go_enter Try.func9, Try.ntmps9
    go_wp2
    go_loopw [5] (fun i wr => ∃ k : Nat, k ≤ m1 ∧ i = .int .i64 k ∧ Below w.heap.size w wr ∧ ∀ j, j < k → z1 j = z2 j) (fun i _ => m1 - (intOf i).toNat)
    case atStart => exact ⟨0, Nat.zero_le _, rfl, Below.refl _ _, fun j hj => absurd hj (Nat.not_lt_zero _)⟩
    case round =>
      obtain ⟨k, hk, rfl, hb, hall⟩ := hrel
      have HA : Hid (∀ j, j < k → z1 j = z2 j) := hall
      clear hall
      by_cases hlt : k < m1
      · obtain ⟨b, off, rfl, e1⟩ := (h1.keep hb) k hlt
        obtain ⟨b', off', rfl, e2⟩ := (h2.keep hb) k hlt
        have hi0 : (0 : Int) ≤ (k : Int) := Int.natCast_nonneg _
        have hi1 : (k : Int) < (m1 : Int) := by omega
        clear h1 h2 hd
        obtain ⟨x, hx⟩ : ∃ x, x = z1 k := ⟨_, rfl⟩
        obtain ⟨y, hy⟩ : ∃ y, y = z2 k := ⟨_, rfl⟩
        rw [← hx] at e1
        rw [← hy] at e2
        by_cases hxy : x = y
        · have HE : Hid (z1 k = z2 k) := by rw [← hx, ← hy]; exact hxy
          subst hxy
          clear hx hy
          go_wp2
          go_quiet (fail)
          go_wp2
          go_roundw
          case rel =>
            refine ⟨k + 1, by omega, by go_num, below_drewN hb _, fun j hj => ?_⟩
            by_cases e : j < k
            · exact HA.out j e
            · obtain rfl : j = k := by omega
              exact HE.out
          case measure => simp [intOf]; omega
        · have hn : ((x : Int) != (y : Int)) = true := by rw [bne_iff_ne]; omega
          clear hx hy
          go_wp2
          go_quiet (fail)
          go_wp2
          go_ret
          exact ⟨rfl, below_drewN hb _⟩
      · exfalso
        obtain ⟨i, hi1, -, hi2⟩ := hd
        exact hi2 (HA.out i (by omega))
  · have hn : ((m1 : Int) != (m2 : Int)) = true := by rw [bne_iff_ne]; omega
    go_enter Try.func9, Try.ntmps9
    go_wp2
    go_ret
    exact ⟨rfl, Below.refl _ _⟩

set_option maxHeartbeats 800000 in
theorem lead_no (a1 a2 : Option Addr) (m1 m2 c1 c2 : Nat) (z1 z2 : Nat → Nat) (w : World) (_hm1 : m1 ≤ 1048576) (hm2 : m2 ≤ 1048576) (h1 : IsB w a1 m1 z1) (h2 : IsB w a2 m2 z2) (hd : ∃ i, i < m1 ∧ i < m2 ∧ z1 i ≠ z2 i) :
    Calls Try.prog 10 #[.slice a1 m1 c1, .slice a2 m2 c2] w fun e w' => e = .returned (.bool false) ∧ Below w.heap.size w w' := by
  by_cases hm : m1 ≤ m2
  · go_enter Try.func10, Try.ntmps10
    go_wp2
    go_loopw [5] (fun i wr => ∃ k : Nat, k ≤ m1 ∧ i = .int .i64 k ∧ Below w.heap.size w wr ∧ ∀ j, j < k → z1 j = z2 j) (fun i _ => m1 - (intOf i).toNat)
    case atStart => exact ⟨0, Nat.zero_le _, rfl, Below.refl _ _, fun j hj => absurd hj (Nat.not_lt_zero _)⟩
    case round =>
      obtain ⟨k, hk, rfl, hb, hall⟩ := hrel
      have HA : Hid (∀ j, j < k → z1 j = z2 j) := hall
      clear hall
      by_cases hlt : k < m1
      · obtain ⟨b, off, rfl, e1⟩ := (h1.keep hb) k hlt
        obtain ⟨b', off', rfl, e2⟩ := (h2.keep hb) k (by omega)
        have hi0 : (0 : Int) ≤ (k : Int) := Int.natCast_nonneg _
        have hi1 : (k : Int) < (m1 : Int) := by omega
        have hi2 : (k : Int) < (m2 : Int) := by omega
        clear h1 h2 hd
        obtain ⟨x, hx⟩ : ∃ x, x = z1 k := ⟨_, rfl⟩
        obtain ⟨y, hy⟩ : ∃ y, y = z2 k := ⟨_, rfl⟩
        rw [← hx] at e1
        rw [← hy] at e2
        by_cases hxy : x = y
        · have HE : Hid (z1 k = z2 k) := by rw [← hx, ← hy]; exact hxy
          subst hxy
          clear hx hy
          go_wp2
          go_quiet (fail)
          go_wp2
          go_roundw
          case rel =>
            refine ⟨k + 1, by omega, by go_num, below_drewN hb _, fun j hj => ?_⟩
            by_cases e : j < k
            · exact HA.out j e
            · obtain rfl : j = k := by omega
              exact HE.out
          case measure => simp [intOf]; omega
        · have hn : ((x : Int) != (y : Int)) = true := by rw [bne_iff_ne]; omega
          clear hx hy
          go_wp2
          go_quiet (fail)
          go_wp2
          go_ret
          exact ⟨rfl, below_drewN hb _⟩
      · exfalso
        obtain ⟨i, hi1, -, hi2⟩ := hd
        exact hi2 (HA.out i (by omega))
  · go_enter Try.func10, Try.ntmps10
    go_wp2
    go_ret
    exact ⟨rfl, Below.refl _ _⟩

theorem shl_one (i : Nat) (h : i ≤ 8) : wrap64 ((2 : Int) ^ (4 + 7 * i)) = (pw i : Int) := by
  have hp : ((2 : Int) ^ (4 + 7 * i)) = ((pw i : Nat) : Int) := by rw [pw_pow]; simp
  have h1 := pw_mono h
  rw [show pw 8 = 1152921504606846976 by decide] at h1
  rw [hp]
  unfold wrap64
  omega

set_option maxHeartbeats 800000 in
theorem hlen_any (S : Nat) (w : World) (hS : S < 9223372036854775808) :
    Calls Try.prog 11 #[.int .i64 S] w fun e w' => ∃ m : Nat, IsLen S m ∧ e = .returned (.int .i64 m) ∧ w' = w := by
  go_enter Try.func11, Try.ntmps11
  go_wp2
  go_loop [3, 4] (fun k b => ∃ i : Nat, i ≤ 9 ∧ k = .int .i64 (i + 1 : Nat) ∧ b = .int .u64 (4 + 7 * i : Nat) ∧ ∀ j, j < i → pw j ≤ S) (fun k _ => 11 - (intOf k).toNat)
  case atStart => exact ⟨0, by omega, by go_num, by go_num, fun j hj => absurd hj (Nat.not_lt_zero _)⟩
  case round =>
    obtain ⟨i, hi, rfl, rfl, hbig⟩ := hrel
    have HB : Hid (∀ j, j < i → pw j ≤ S) := hbig
    clear hbig
    by_cases h8 : i ≤ 8
    · have hs := shl_one i h8
      obtain ⟨p, hp⟩ : ∃ p, p = pw i := ⟨_, rfl⟩
      rw [← hp] at hs
      have HP : Hid (p = pw i) := hp
      clear hp
      have hlt63 : ((4 : Int) + 7 * (i : Int)) < 63 := by omega
      by_cases hge : p ≤ S
      · go_wp2
        go_round
        case rel =>
          refine ⟨i + 1, by omega, by go_num, by go_num, fun j hj => ?_⟩
          by_cases e : j < i
          · exact HB.out j e
          · obtain rfl : j = i := by omega
            rw [← HP.out]; exact hge
        case measure => simp [intOf]; omega
      · go_wp2
        go_ret
        exact ⟨i + 1, ⟨by omega, fun j hj => HB.out j (by omega), by rw [Nat.add_sub_cancel, ← HP.out]; omega⟩, ret_i64 (by omega), rfl⟩
    · have hge63 : ¬ ((4 : Int) + 7 * (i : Int)) < 63 := by omega
      have HI : Hid (i = 9) := by show i = 9; omega
      go_wp2
      go_ret
      refine ⟨i + 1, ⟨by omega, fun j hj => HB.out j (by omega), ?_⟩, ret_i64 (by omega), rfl⟩
      rw [Nat.add_sub_cancel, HI.out, show pw 9 = 147573952589676412928 by decide]; omega
end Go.Proofs.Qxb6625641a
