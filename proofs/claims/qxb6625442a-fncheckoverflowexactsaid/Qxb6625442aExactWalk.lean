/-
  Seat b6625442a: the walk of FnCheckOverflowExact.
-/
import Derived.Test.Qxb6625442aGuards
import Derived.Test.Qxb6625442aPlain
namespace Go.Proofs.Qxb6625442a
open Go.RowKit

set_option maxRecDepth 100000 in
set_option maxHeartbeats 3200000 in
theorem exact_walk (a : Option Addr) (len cap : Nat) (q : Nat → Qt) (ag : Option Addr) (lg cg : Nat) (g : Nat → Al) (w : World) (hl : len ≤ maxLen) (hlg : lg ≤ maxLen) (hq : IsQ w a len q) (hg : IsA w ag lg g) :
    Calls Try.prog 3 #[.slice a len cap, .slice ag lg cg] w fun e w' => e = .returned (.bool true) ∧ Below w.heap.size w w' := by
  go_enter Try.func3, Try.ntmps3
  go_wp2_with fail
  refine (bytesE_any a len cap q ag lg cg g _ hl hlg hq hg).mono ?_
  rintro e w' ⟨r, rfl, hw, hP⟩
  have hw' := hw.symm
  subst hw'
  clear hw
  cases r
  · go_wp2
    go_ret
    exact ⟨rfl, Below.refl _ _⟩
  obtain ⟨fq, fg⟩ := hP rfl
  clear hP
  go_wp2_with fail
  refine (fits_any a len cap q none 0 0 q ag lg cg g _ hl (Nat.zero_le _) hlg hq (fun i hi => absurd hi (Nat.not_lt_zero _)) hg fq (QFit.zero q) fg).mono ?_
  rintro e w' ⟨r, rfl, hw, hP⟩
  have hw' := hw.symm
  subst hw'
  clear hw fq fg
  cases r
  · go_wp2
    go_ret
    exact ⟨rfl, Below.refl _ _⟩
  obtain ⟨cl, -, clg⟩ := hP rfl
  clear hP
  go_wp2_with fail
  refine (toQ_any a len cap q _ (by omega) hq).mono ?_
  rintro e w1 ⟨rfl, hq1, hb1⟩
  go_wp2_with fail
  refine (toA_any ag lg cg g _ (by omega) (hg.keep hb1)).mono ?_
  rintro e w2 ⟨rfl, hg2, hb2⟩
  go_wp2_with fail
  refine (plain_any _ len len q _ lg lg g _ (by omega) (by omega) (hq1.keep hb2) hg2).mono ?_
  rintro e w3 ⟨ao, cp, rfl, hO, hb3⟩
  have hB : Below w.heap.size w w3 := hb1.trans ((hb2.mono hb1.size).trans (hb3.mono (Nat.le_trans hb1.size hb2.size)))
  have hq3 := hq.keep hB
  have hg3 := hg.keep hB
  clear hq1 hb1 hg2 hb2 hb3 hq hg
  go_wp2_with fail
  refine (count_any a len cap q _ hl hq3).mono ?_
  rintro e w' ⟨rfl, hw⟩
  have hw' := hw.symm
  subst hw'
  clear hw
  unfold maxLen at hl hlg
  have hcl := cnt_le q len
  by_cases hz : cnt q len = 0
  · have HZ : Hid (cnt q len = 0) := hz
    have hd : decide (0 < cnt q len) = false := by simp [hz]
    have he : ((cnt q len : Int) == 0) = true := by simp [hz]
    clear hz
    go_wp2
    go_ret
    exact ⟨rfl, hB⟩
  · have hd : decide (0 < cnt q len) = true := by simp; omega
    have he : ((cnt q len : Int) == 0) = false := by simp; omega
    clear hz
    go_wp2
    go_loopw [10, 11] (fun kk i wr => ∃ k : Nat, k ≤ len ∧ i = .int .i64 k ∧ kk = .int .i64 (cnt q k) ∧ Below w3.heap.size w3 wr) (fun _ i _ => len - (intOf i).toNat)
    case atStart => exact ⟨0, Nat.zero_le _, rfl, rfl, Below.refl _ _⟩
    case round =>
      obtain ⟨k, hk, rfl, rfl, hb⟩ := hrel
      have hck := cnt_le q k
      by_cases hlt : k < len
      · obtain ⟨b, off, rfl, h0, h1, -, -⟩ := (hq3.keep hb) k hlt
        have hg4 := hg3.keep hb
        by_cases hm : 9007199254740991 < (q k).cp
        · have hci := cnt_lt q k len hlt hm
          obtain ⟨b', off', rfl, o0, o1, o2⟩ := (hO.keep hb) (cnt q k) hci
          rw [ovAt, ovs_at q g lg k len hlt hm] at o0 o1 o2
          simp only [ovOf] at o0 o1 o2
          have HC : Hid (cnt q (k + 1) = cnt q k + 1) := cnt_hit q k hm
          have hbl : b < wr.heap.size := block_lt_of_cell h0
          have hi0 : (0 : Int) ≤ (k : Int) := Int.natCast_nonneg _
          have hi1 : (k : Int) < (len : Int) := by omega
          have hmg : lg ≤ maxLen := by unfold maxLen; omega
          clear hq3 hg3 hO
          go_wp2
          go_quiet (fail)
          go_wp2
          go_region_held3 (fun w' => w'.cell? ⟨b, off + k * 4, none⟩ = some (.string (q k).ty) ∧ w'.cell? ⟨wr.heap.size, 0, none⟩ = some (.int .i64 (lineI g (q k).ty lg))) (go_keep)
            (first | (go_at_call 11; refine (first_any ag lg cg g (q k).ty _ hmg ?_).mono ?_; (first | exact hg4.keep ((below_drewN ((Below.refl _ _).alloc (Nat.le_refl _) _) _).drew) | exact hg4.keep (below_drewN ((Below.refl _ _).alloc (Nat.le_refl _) _) _)); rintro e w' ⟨rfl, rfl⟩))
          go_wp2
          go_roundw
          case rel => exact ⟨k + 1, by omega, by go_num, by rw [HC.out]; go_num, hb.trans ((below_drewN ((Below.refl _ _).alloc (Nat.le_refl _) _) _).drew.mono hb.size)⟩
          case measure => simp [intOf]; omega
        · have HC : Hid (cnt q (k + 1) = cnt q k) := cnt_miss q k (by omega)
          go_wp2
          go_roundw
          case rel => exact ⟨k + 1, by omega, by go_num, by rw [HC.out], hb⟩
          case measure => simp [intOf]; omega
      · go_wp2
        go_ret
        exact ⟨rfl, hB.trans (hb.mono hB.size)⟩
end Go.Proofs.Qxb6625442a
