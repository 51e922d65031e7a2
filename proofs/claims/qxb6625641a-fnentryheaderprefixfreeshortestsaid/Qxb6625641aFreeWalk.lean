/-
  Seat b6625641a: the walk of FnEntryHeaderPrefixFreeShortest.
-/
import Derived.Test.Qxb6625641aPrefix
import Derived.Test.Qxb6625641aAppend
namespace Go.Proofs.Qxb6625641a
open Go.RowKit

theorem isB_hdv {w : World} {base g cp T S m : Nat} (h : w.ownsRow base 5 1 (.slice (some ⟨g, 0, none⟩) m cp) m ([] ++ hdv T S m)) : IsB w (some ⟨g, 0, none⟩) m (hbyte T S m) := by
  intro i hi
  refine ⟨g, 0, rfl, ?_⟩
  rw [Nat.zero_add, h.cellAt i (by omega), List.nil_append, hdv_at T S m i hi]

set_option maxRecDepth 100000 in
set_option maxHeartbeats 3200000 in
theorem free_main (T1 S1 T2 S2 : Nat) (w : World) (hT1 : T1 ≤ 7) (hS1 : S1 < 9223372036854775808) (hT2 : T2 ≤ 7) (hS2 : S2 < 9223372036854775808) :
    Calls Try.prog 4 #[.int .i8 T1, .int .i64 S1, .int .i8 T2, .int .i64 S2] w fun e w' => e = .returned (.bool true) ∧ Below w.heap.size w w' := by
  go_enter Try.func4, Try.ntmps4
  go_wp2_with fail
  refine (zzapp_any T1 S1 _ 0 w.heap.size [] _ hT1 hS1 (World.ownsRow_nil _ _ _ _) (Nat.le_refl _) (Nat.zero_le _)).mono ?_
  rintro e w1 ⟨g1, cp1, m1, rfl, hm1, own1, hb1⟩
  rw [Nat.zero_add] at own1 ⊢
  go_wp2_with fail
  refine (zzapp_any T2 S2 _ 0 w1.heap.size [] _ hT2 hS2 (World.ownsRow_nil _ _ _ _) (Nat.le_refl _) (Nat.zero_le _)).mono ?_
  rintro e w2 ⟨g2, cp2, m2, rfl, hm2, own2, hb2⟩
  rw [Nat.zero_add] at own2 ⊢
  have i1 := (isB_hdv own1).keep hb2
  have i2 := isB_hdv own2
  have hB : Below w.heap.size w w2 := hb1.trans (hb2.mono hb1.size)
  have l1 := hm1.le10 hS1
  have l2 := hm2.le10 hS2
  clear own1 own2 hb1 hb2
  by_cases hs : T1 = T2 ∧ S1 = S2
  · obtain ⟨rfl, rfl⟩ := hs
    obtain rfl := hm1.unique hm2
    clear hm2
    go_wp2_with fail
    refine (eq_yes _ _ m1 _ _ _ _ (by omega) i1 i2).mono ?_
    rintro e w3 ⟨rfl, hb3⟩
    have hB3 := hB.trans (hb3.mono hB.size)
    clear i1 i2 hb3
    go_wp2_with fail
    refine (hlen_any S1 _ hS1).mono ?_
    rintro e w' ⟨m, hm, rfl, hw⟩
    obtain rfl := hm1.unique hm
    have hw' := hw.symm
    subst hw'
    clear hw hm
    go_wp2_with fail
    refine (hlen_any S1 _ hS1).mono ?_
    rintro e w' ⟨m, hm, rfl, hw⟩
    obtain rfl := hm1.unique hm
    have hw' := hw.symm
    subst hw'
    clear hw hm
    go_wp2
    go_ret
    exact ⟨rfl, hB3⟩
  · have hd := parts hT1 hT2 hm1 hm2 hs
    have hd' : ∃ i, i < m2 ∧ i < m1 ∧ hbyte T2 S2 m2 i ≠ hbyte T1 S1 m1 i := by
      obtain ⟨i, h1, h2, h3⟩ := hd
      exact ⟨i, h2, h1, fun e => h3 e.symm⟩
    have two : ((T1 : Int) == (T2 : Int)) = false ∨ (((T1 : Int) == (T2 : Int)) = true ∧ ((S1 : Int) == (S2 : Int)) = false) := by
      by_cases e : T1 = T2
      · right
        rw [beq_iff_eq, beq_eq_false_iff_ne]
        omega
      · left
        rw [beq_eq_false_iff_ne]
        omega
    clear hs
    have HD : Hid (∃ i, i < m1 ∧ i < m2 ∧ hbyte T1 S1 m1 i ≠ hbyte T2 S2 m2 i) := hd
    have HD' : Hid (∃ i, i < m2 ∧ i < m1 ∧ hbyte T2 S2 m2 i ≠ hbyte T1 S1 m1 i) := hd'
    clear hd hd'
    rcases two with f1 | ⟨f1, f2⟩
    all_goals
      go_wp2_with fail
      refine (eq_no _ _ m1 m2 _ _ _ _ _ (by omega) (by omega) i1 i2 HD.out).mono ?_
      rintro e w3 ⟨rfl, hb3⟩
      have hB3 := hB.trans (hb3.mono hB.size)
      have j1 := i1.keep hb3
      have j2 := i2.keep hb3
      clear hb3
      go_wp2_with fail
      refine (lead_no _ _ m1 m2 _ _ _ _ _ (by omega) (by omega) j1 j2 HD.out).mono ?_
      rintro e w4 ⟨rfl, hb4⟩
      have hB4 := hB3.trans (hb4.mono hB3.size)
      have k1 := j1.keep hb4
      have k2 := j2.keep hb4
      clear hb4
      go_wp2_with fail
      refine (lead_no _ _ m2 m1 _ _ _ _ _ (by omega) (by omega) k2 k1 HD'.out).mono ?_
      rintro e w5 ⟨rfl, hb5⟩
      have hB5 := hB4.trans (hb5.mono hB4.size)
      clear hb5
      go_wp2_with fail
      refine (hlen_any S1 _ hS1).mono ?_
      rintro e w' ⟨m, hm, rfl, hw⟩
      obtain rfl := hm1.unique hm
      have hw' := hw.symm
      subst hw'
      clear hw hm
      go_wp2_with fail
      refine (hlen_any S2 _ hS2).mono ?_
      rintro e w' ⟨m, hm, rfl, hw⟩
      obtain rfl := hm2.unique hm
      have hw' := hw.symm
      subst hw'
      clear hw hm
      go_wp2
      go_ret
      exact ⟨rfl, hB5⟩
end Go.Proofs.Qxb6625641a
