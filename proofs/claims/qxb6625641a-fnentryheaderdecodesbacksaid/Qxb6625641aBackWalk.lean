/-
  Seat b6625641a: the walk of FnEntryHeaderDecodesBack.
-/
import Derived.Test.Qxb6625641aClone
import Derived.Deep.QuietTactic
import Derived.BigQuiet
import Derived.WalkSmall
namespace Go.Proofs.Qxb6625641a
open Go.RowKit

theorem isB_own {w : World} {base g n cp : Nat} {z : Nat → Nat} {xs : List Value} (h : w.ownsRow base 5 1 (.slice (some ⟨g, 0, none⟩) n cp) n xs) (hx : ∀ i, i < n → xs[i]? = some (.int .u8 (z i : Int))) : IsB w (some ⟨g, 0, none⟩) n z := by
  intro i hi
  refine ⟨g, 0, rfl, ?_⟩
  rw [Nat.zero_add, h.cellAt i (by omega)]
  exact hx i hi
theorem isB_own' {w : World} {base n cp : Nat} {ao : Option Addr} {z : Nat → Nat} (h : w.ownsRow base 5 1 (.slice ao n cp) n (bl z n)) : IsB w ao n z := by
  rcases h.2 with ⟨h', h0⟩ | ⟨g, cap, cur, hv, -⟩
  · intro i hi; omega
  · simp only [Value.slice.injEq] at hv
    obtain ⟨rfl, -, rfl⟩ := hv
    exact isB_own h fun i hi => bl_at z n i hi
/-- The bytes of 'out': dst's, then the header's. -/
def outZ (z : Nat → Nat) (n T S m i : Nat) : Nat := if i < n then z i else hbyte T S m (i - n)
theorem outZ_left (z : Nat → Nat) (n T S m i : Nat) (h : i < n) : outZ z n T S m i = z i := by simp [outZ, h]
theorem outZ_right (z : Nat → Nat) (n T S m i : Nat) : outZ z n T S m (n + i) = hbyte T S m i := by
  unfold outZ; rw [if_neg (by omega), show n + i - n = i by omega]
theorem outZ_at (z : Nat → Nat) (n T S m i : Nat) (h : i < n + m) : (bl z n ++ hdv T S m)[i]? = some (.int .u8 (outZ z n T S m i : Int)) := by
  by_cases hi : i < n
  · rw [List.getElem?_append_left (by rw [bl_len]; exact hi), bl_at z n i hi, outZ_left z n T S m i hi]
  · rw [List.getElem?_append_right (by rw [bl_len]; omega), bl_len, hdv_at T S m _ (by omega)]
    unfold outZ; rw [if_neg hi]

set_option maxRecDepth 100000 in
set_option maxHeartbeats 3200000 in
theorem back_main (a : Option Addr) (n cap : Nat) (z : Nat → Nat) (T S : Nat) (w : World) (hn : n ≤ 1048576) (hT : T ≤ 7) (hS : S < 9223372036854775808) (ha : IsB w a n z) :
    Calls Try.prog 3 #[.slice a n cap, .int .i8 T, .int .i64 S] w fun e w' => e = .returned (.bool true) ∧ Below w.heap.size w w' := by
  go_enter Try.func3, Try.ntmps3
  go_wp2_with fail
  refine (bytes_yes a n cap T S _ hn).mono ?_
  rintro e w' ⟨rfl, hw⟩
  have hw' := hw.symm
  subst hw'
  clear hw
  go_wp2_with fail
  refine (clone_any a n cap z _ hn ha).mono ?_
  rintro e w1 ⟨ao1, cp1, rfl, own1, hb1⟩
  go_wp2_with fail
  refine (clone_any a n cap z _ hn (ha.keep hb1)).mono ?_
  rintro e w2 ⟨ao2, cp2, rfl, own2, hb2⟩
  go_wp2_with fail
  refine (zzapp_any T S _ n w1.heap.size (bl z n) _ hT hS own2 hb2.size hn).mono ?_
  rintro e w3 ⟨g3, cp3, m, rfl, hm, own3, hb3⟩
  go_wp2_with fail
  refine (zzapp_any T S _ 0 w3.heap.size [] _ hT hS (World.ownsRow_nil _ _ _ _) (Nat.le_refl _) (Nat.zero_le _)).mono ?_
  rintro e w4 ⟨g4, cp4, m', rfl, hm', own4, hb4⟩
  obtain rfl := hm.unique hm'
  rw [Nat.zero_add] at own4 ⊢
  have iB1 : IsB w4 ao1 n z := ((isB_own' own1).keep (hb2.trans hb3)).keep (hb4.mono (by have := hb2.size; have := hb3.size; omega))
  have iB3 : IsB w4 (some ⟨g3, 0, none⟩) (n + m) (outZ z n T S m) := (isB_own own3 fun i hi => outZ_at z n T S m i hi).keep hb4
  have iB4 : IsB w4 (some ⟨g4, 0, none⟩) m (hbyte T S m) := isB_own own4 fun i hi => by rw [List.nil_append]; exact hdv_at T S m i hi
  have hB : Below w.heap.size w w4 := hb1.trans (((hb2.trans hb3).mono hb1.size).trans (hb4.mono (by have := hb1.size; have := hb2.size; have := hb3.size; omega)))
  have hm10 := hm.le10 hS
  clear own1 own2 own3 own4 hb1 hb2 hb3 hb4 hm' ha
  go_wp2_with fail
  go_loopw [10] (fun i wr => ∃ k : Nat, k ≤ n ∧ i = .int .i64 k ∧ Below w4.heap.size w4 wr) (fun i _ => n - (intOf i).toNat)
  case atStart => exact ⟨0, Nat.zero_le _, rfl, Below.refl _ _⟩
  case round =>
    obtain ⟨k, hk, rfl, hbk⟩ := hrel
    by_cases hlt : k < n
    · obtain ⟨b, off, rfl, h0⟩ := (iB1.keep hbk) k hlt
      obtain ⟨b', off', e', h1⟩ := (iB3.keep hbk) k (by omega)
      simp only [Option.some.injEq, Addr.mk.injEq, and_true] at e'
      obtain ⟨rfl, rfl⟩ := e'
      rw [outZ_left z n T S m k hlt, Nat.zero_add] at h1
      have hi0 : (0 : Int) ≤ (k : Int) := Int.natCast_nonneg _
      have hi1 : (k : Int) < (n : Int) := by omega
      have hi2 : (k : Int) < (n : Int) + (m : Int) := by omega
      clear iB1 iB3 iB4 hB hm
      go_wp2
      go_quiet (fail)
      go_wp2
      go_roundw
      case rel => exact ⟨k + 1, by omega, by go_num, below_drewN hbk _⟩
      case measure => simp [intOf]; omega
    · go_wp2_with fail
      go_loopw [11] (fun i wr => ∃ j : Nat, j ≤ m ∧ i = .int .i64 j ∧ Below w4.heap.size w4 wr) (fun i _ => m - (intOf i).toNat)
      case atStart => exact ⟨0, Nat.zero_le _, rfl, hbk⟩
      case round =>
        obtain ⟨j, hj, rfl, hbj⟩ := hrel
        clear hbk
        by_cases hltj : j < m
        · obtain ⟨b, off, e, h0⟩ := (iB4.keep hbj) j hltj
          simp only [Option.some.injEq, Addr.mk.injEq, and_true] at e
          obtain ⟨rfl, rfl⟩ := e
          obtain ⟨b', off', e', h1⟩ := (iB3.keep hbj) (n + j) (by omega)
          simp only [Option.some.injEq, Addr.mk.injEq, and_true] at e'
          obtain ⟨rfl, rfl⟩ := e'
          rw [outZ_right z n T S m j, Nat.zero_add] at h1
          rw [Nat.zero_add] at h0
          have hi0 : (0 : Int) ≤ (j : Int) := Int.natCast_nonneg _
          have hi1 : (j : Int) < (m : Int) := by omega
          have hi2 : (n : Int) + (j : Int) < (n : Int) + (m : Int) := by omega
          have hi3 : (0 : Int) ≤ (n : Int) + (j : Int) := by omega
          have hwr : IntKind.i64.wrap ((n : Int) + (j : Int)) = (n : Int) + (j : Int) := by rw [IntKind.wrap_i64]; omega
          have htn : ((n : Int) + (j : Int)).toNat = n + j := by omega
          clear iB1 iB3 iB4 hB hm
          go_wp2
          go_quiet (fail)
          go_wp2
          go_roundw
          case rel => exact ⟨j + 1, by omega, by go_num, below_drewN hbj _⟩
          case measure => simp [intOf]; omega
        · go_wp2_with fail
          refine (decode_any T S m _ _ _ hT hS hm (iB4.keep hbj)).mono ?_
          rintro e w' ⟨rfl, hw⟩
          have hw' := hw.symm
          subst hw'
          clear hw
          go_wp2
          go_ret
          exact ⟨rfl, hB.trans (hbj.mono hB.size)⟩
end Go.Proofs.Qxb6625641a
