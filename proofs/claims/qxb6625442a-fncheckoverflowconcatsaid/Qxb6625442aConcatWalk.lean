/-
  Seat b6625442a: the walk of FnCheckOverflowConcat.
-/
import Derived.Test.Qxb6625442aGuards
import Derived.Test.Qxb6625442aCat
namespace Go.Proofs.Qxb6625442a
open Go.RowKit

/-- ZZcheckOverflowPlain on the joined list. -/
theorem plainC_any (a : Option Addr) (la lb cap : Nat) (qa qb : Nat → Qt) (ag : Option Addr) (lg cg : Nat) (g : Nat → Al) (w : World) (hl : la + lb ≤ 1048576) (hlg : lg ≤ 1048576) (hq : IsQ w a (la + lb) (cat qa qb la)) (hg : IsA w ag lg g) :
    Calls Try.prog 9 #[.slice a (la + lb) cap, .slice ag lg cg] w (Pln w (cnt qa la + cnt qb lb) (ovAt (cat qa qb la) g lg (la + lb))) := by
  have h := plain_any a (la + lb) cap (cat qa qb la) ag lg cg g w hl hlg hq hg
  rw [cnt_cat] at h
  exact h

set_option maxRecDepth 100000 in
set_option maxHeartbeats 3200000 in
theorem concat_walk (aa : Option Addr) (la ca : Nat) (qa : Nat → Qt) (ab : Option Addr) (lb cb : Nat) (qb : Nat → Qt) (ag : Option Addr) (lg cg : Nat) (g : Nat → Al) (w : World)
    (hla : la ≤ maxLen) (hlb : lb ≤ maxLen) (hlg : lg ≤ maxLen) (ha : IsQ w aa la qa) (hb : IsQ w ab lb qb) (hg : IsA w ag lg g) :
    Calls Try.prog 4 #[.slice aa la ca, .slice ab lb cb, .slice ag lg cg] w fun e w' => e = .returned (.bool true) ∧ Below w.heap.size w w' := by
  obtain ⟨i0, hi, hz0, hz1, hz2⟩ := info_parts info39
  go_enter Try.func4, Try.ntmps4
  go_wp2_with fail
  refine (bytesC_any aa la ca qa ab lb cb qb ag lg cg g _ hla hlb hlg ha hb hg).mono ?_
  rintro e w' ⟨r, rfl, hw, hP⟩
  have hw' := hw.symm
  subst hw'
  clear hw
  cases r
  · go_wp2
    go_ret
    exact ⟨rfl, Below.refl _ _⟩
  obtain ⟨fa, fb, fg⟩ := hP rfl
  clear hP
  go_wp2_with fail
  refine (fits_any aa la ca qa ab lb cb qb ag lg cg g _ hla hlb hlg ha hb hg fa fb fg).mono ?_
  rintro e w' ⟨r, rfl, hw, hP⟩
  have hw' := hw.symm
  subst hw'
  clear hw fa fb fg
  cases r
  · go_wp2
    go_ret
    exact ⟨rfl, Below.refl _ _⟩
  obtain ⟨cla, clb, clg⟩ := hP rfl
  clear hP
  go_wp2_with fail
  refine (toQ_any aa la ca qa _ (by omega) ha).mono ?_
  rintro e w1 ⟨rfl, hqa, hb1⟩
  go_wp2_with fail
  refine (toQ_any ab lb cb qb _ (by omega) (hb.keep hb1)).mono ?_
  rintro e w2 ⟨rfl, hqb, hb2⟩
  have hB2 : Below w.heap.size w w2 := hb1.trans (hb2.mono hb1.size)
  have ha2 := isQ_left (ha.keep hB2) qb
  have hb2' := isQ_right (hb.keep hB2) qa la
  have hg2 := hg.keep hB2
  have hqa2 := hqa.keep hb2
  clear hqa hb1 hb2
  have hmx : la + lb ≤ maxLen := by unfold maxLen; omega
  have hL : (la : Int) + (lb : Int) = ((la + lb : Nat) : Int) := by omega
  have HL : Hid ((la : Int) + (lb : Int) = ((la + lb : Nat) : Int)) := hL
  clear hL
  go_wp2_with (first | (refine wpList_make_full _ rfl _ _ 26 rfl w2.heap.size 39 i0 _ 4 Try.underlying26 hi hz0 hz1 .i64 .i64 _ _ (la + lb) rfl rfl HL.out HL.out (by rw [hz2]; omega) hmx (Nat.le_refl _) ?_; intro w3 hown hgr))
  have hb3 : Below w2.heap.size w2 w3 := (Below.refl _ _).grown hgr (Nat.le_refl _) (by intro k hk; simp at hk)
  have hr3 := (RowQ.made (cat qa qb la) hown).congr (D' := fun i => i < 0) (fun i _ h => absurd h (Nat.not_lt_zero _))
  clear hown hgr hi hz0 hz1 hz2 hmx HL
  go_loopw [10] (fun i wr => ∃ k : Nat, k ≤ la ∧ i = .int .i64 k ∧ Below w2.heap.size w2 wr ∧ RowQ wr w2.heap.size w2.heap.size (la + lb) (fun i => i < k) (cat qa qb la)) (fun i _ => la - (intOf i).toNat)
  case atStart => exact ⟨0, Nat.zero_le _, rfl, hb3, hr3⟩
  case round =>
    obtain ⟨k, hk, rfl, hbk, hr⟩ := hrel
    clear hb3 hr3
    by_cases hlt : k < la
    · obtain ⟨b, off, rfl, h0, h1, h2, h3⟩ := (ha2.keep hbk) k hlt
      clear ha2 hb2' hg2 hqa2 ha hb hg hqb
      obtain ⟨v0, e0⟩ := hr.there (k * 4) (by omega)
      obtain ⟨v1, e1⟩ := hr.there (k * 4 + 1) (by omega)
      obtain ⟨v2, e2⟩ := hr.there (k * 4 + 2) (by omega)
      obtain ⟨v3, e3⟩ := hr.there (k * 4 + 3) (by omega)
      have f0 := hr.free (k * 4)
      have f1 := hr.free (k * 4 + 1)
      have f2 := hr.free (k * 4 + 2)
      have f3 := hr.free (k * 4 + 3)
      go_wp2
      go_roundw
      case rel => exact ⟨k + 1, by omega, by go_num, (((hbk.setCell (Nat.le_refl _) _).setCell (Nat.le_refl _) _).setCell (Nat.le_refl _) _).setCell (Nat.le_refl _) _, (hr.step k (by omega)).congr (fun i _ h => by omega)⟩
      case measure => simp [intOf]; omega
    obtain rfl : k = la := by omega
    have hr4 := hr.congr (D' := fun i => i < k + 0) (fun i _ h => by omega)
    have hbk4 := hbk
    clear hr hbk
    go_wp2
    go_loopw [11] (fun i wr => ∃ j : Nat, j ≤ lb ∧ i = .int .i64 j ∧ Below w2.heap.size w2 wr ∧ RowQ wr w2.heap.size w2.heap.size (k + lb) (fun i => i < k + j) (cat qa qb k)) (fun i _ => lb - (intOf i).toNat)
    case atStart => exact ⟨0, Nat.zero_le _, rfl, hbk4, hr4⟩
    case round =>
      obtain ⟨j, hj, rfl, hbj, hr⟩ := hrel
      clear hbk4 hr4
      by_cases hltj : j < lb
      · obtain ⟨b, off, rfl, h0, h1, h2, h3⟩ := (hb2'.keep hbj) j hltj
        clear ha2 hb2' hg2 hqa2 ha hb hg hqb
        obtain ⟨v0, e0⟩ := hr.there ((k + j) * 4) (by omega)
        obtain ⟨v1, e1⟩ := hr.there ((k + j) * 4 + 1) (by omega)
        obtain ⟨v2, e2⟩ := hr.there ((k + j) * 4 + 2) (by omega)
        obtain ⟨v3, e3⟩ := hr.there ((k + j) * 4 + 3) (by omega)
        have f0 := hr.free ((k + j) * 4)
        have f1 := hr.free ((k + j) * 4 + 1)
        have f2 := hr.free ((k + j) * 4 + 2)
        have f3 := hr.free ((k + j) * 4 + 3)
        go_wp2
        go_roundw
        case rel => exact ⟨j + 1, by omega, by go_num, (((hbj.setCell (Nat.le_refl _) _).setCell (Nat.le_refl _) _).setCell (Nat.le_refl _) _).setCell (Nat.le_refl _) _, (hr.step (k + j) (by omega)).congr (fun i _ h => by omega)⟩
        case measure => simp [intOf]; omega
      obtain rfl : j = lb := by omega
      have hq5 := hr.isQ (fun i hi => hi)
      have hB5 : Below w.heap.size w wr := hB2.trans (hbj.mono hB2.size)
      have ha5 := ha.keep hB5
      have hb5 := hb.keep hB5
      have hqa5 := hqa2.keep hbj
      have hqb5 := hqb.keep hbj
      have hg5 := hg2.keep hbj
      clear hr ha hb hg hqa2 hqb hg2 ha2 hb2' hB2 hbj
      go_wp2_with fail
      refine (toA_any ag lg cg g _ (by omega) hg5).mono ?_
      rintro e w6 ⟨rfl, hg6, hb6⟩
      go_wp2_with fail
      refine (plain_any _ k k qa _ lg lg g _ (by omega) (by omega) (hqa5.keep hb6) hg6).mono ?_
      rintro e w7 ⟨ao, co, rfl, hO7, hb7⟩
      have hg7 := hg6.keep hb7
      go_wp2_with fail
      refine (plain_any _ j j qb _ lg lg g _ (by omega) (by omega) ((hqb5.keep hb6).keep hb7) hg7).mono ?_
      rintro e w8 ⟨bo, do_, rfl, hO8, hb8⟩
      have hg8 := hg7.keep hb8
      go_wp2_with fail
      refine (plainC_any _ k j (k + j) qa qb _ lg lg g _ (by omega) (by omega) (((hq5.keep hb6).keep hb7).keep hb8) hg8).mono ?_
      rintro e w9 ⟨xo, eo, rfl, hO9, hb9⟩
      have hB9 : Below wr.heap.size wr w9 := hb6.trans ((hb7.mono hb6.size).trans ((hb8.mono (Nat.le_trans hb6.size hb7.size)).trans (hb9.mono (Nat.le_trans hb6.size (Nat.le_trans hb7.size hb8.size)))))
      have hOa := (hO7.keep hb8).keep hb9
      have hOb := hO8.keep hb9
      have ha9 := ha5.keep hB9
      have hb9' := hb5.keep hB9
      have hBw : Below w.heap.size w w9 := hB5.trans (hB9.mono hB5.size)
      clear hq5 hB5 ha5 hb5 hqa5 hqb5 hg5 hg6 hb6 hO7 hb7 hg7 hO8 hb8 hg8 hb9 hB9
      go_wp2_with fail
      refine (count_any aa k ca qa _ hla ha9).mono ?_
      rintro e w' ⟨rfl, hw⟩
      have hw' := hw.symm
      subst hw'
      clear hw
      go_wp2_with fail
      refine (count_any ab j cb qb _ hlb hb9').mono ?_
      rintro e w' ⟨rfl, hw⟩
      have hw' := hw.symm
      subst hw'
      clear hw ha9 hb9'
      unfold maxLen at hla hlb hlg
      have hca := cnt_le qa k
      have hcb := cnt_le qb j
      have hmgO : cnt qa k + cnt qb j ≤ 65536 := by omega
      have tri : (decide (0 < cnt qa k) = true ∧ decide (0 < cnt qa k + cnt qb j) = true ∧ decide ((0 : Int) < (cnt qa k : Int) + (cnt qb j : Int)) = true) ∨
          (decide (0 < cnt qa k) = false ∧ decide (0 < cnt qb j) = true ∧ decide (0 < cnt qa k + cnt qb j) = true ∧ decide ((0 : Int) < (cnt qa k : Int) + (cnt qb j : Int)) = true) ∨
          (decide (0 < cnt qa k) = false ∧ decide (0 < cnt qb j) = false ∧ decide (0 < cnt qa k + cnt qb j) = false ∧ decide ((0 : Int) < (cnt qa k : Int) + (cnt qb j : Int)) = false) := by
        simp only [decide_eq_true_eq, decide_eq_false_iff_not]
        omega
      rcases tri with ⟨t1, t2, t3⟩ | ⟨t1, t2, t3, t4⟩ | ⟨t1, t2, t3, t4⟩
      all_goals
        go_wp2_with fail
        go_loopw [20] (fun i wx => ∃ x : Nat, x ≤ cnt qa k ∧ i = .int .i64 x ∧ Below w9.heap.size w9 wx) (fun i _ => cnt qa k - (intOf i).toNat)
        case atStart => exact ⟨0, Nat.zero_le _, rfl, Below.refl _ _⟩
        case round =>
          obtain ⟨x, hx, rfl, hbx⟩ := hrel
          by_cases hltx : x < cnt qa k
          · obtain ⟨b, off, rfl, o0, o1, o2⟩ := (hOa.keep hbx) x hltx
            obtain ⟨b', off', rfl, p0, p1, p2⟩ := (hO9.keep hbx) x (by omega)
            rw [ovAt_left qa qb g lg k j x hltx] at p0 p1 p2
            have hi0 : (0 : Int) ≤ (x : Int) := Int.natCast_nonneg _
            have hi1 : (x : Int) < (cnt qa k : Int) := by omega
            have hi2 : (x : Int) < (cnt qa k : Int) + (cnt qb j : Int) := by omega
            clear hOa hO9 hOb hBw
            go_wp2_with fail
            go_region_held3 (fun w' => w'.cell? ⟨b, off + x * 3, none⟩ = some (.int .i64 (ovAt qa g lg k x).ln) ∧ w'.cell? ⟨b, off + x * 3 + 1, none⟩ = some (.string (ovAt qa g lg k x).ty) ∧ w'.cell? ⟨b, off + x * 3 + 2, none⟩ = some (.int .i64 (ovAt qa g lg k x).cp) ∧
                w'.cell? ⟨b', off' + x * 3, none⟩ = some (.int .i64 (ovAt qa g lg k x).ln) ∧ w'.cell? ⟨b', off' + x * 3 + 1, none⟩ = some (.string (ovAt qa g lg k x).ty) ∧ w'.cell? ⟨b', off' + x * 3 + 2, none⟩ = some (.int .i64 (ovAt qa g lg k x).cp))
              (first | go_keep | (go_split_ands; refine ⟨?_, ?_, ?_, ?_, ?_, ?_⟩ <;> (refine cell_keep hbc ?_; simp; assumption)))
              (first | (go_at_call 13; refine (same_any (ovAt qa g lg k x) _).mono ?_; rintro e wc ⟨rfl, hbc⟩))
            go_wp2
            go_roundw
            case rel => exact ⟨x + 1, by omega, by go_num, hbx.trans ((Below.refl _ _).drew.trans (hbc.mono (by simp; exact hbx.size)))⟩
            case measure => simp [intOf]; omega
          · go_wp2_with fail
            go_loopw [21] (fun i wy => ∃ y : Nat, y ≤ cnt qb j ∧ i = .int .i64 y ∧ Below w9.heap.size w9 wy) (fun i _ => cnt qb j - (intOf i).toNat)
            case atStart => exact ⟨0, Nat.zero_le _, rfl, hbx⟩
            case round =>
              obtain ⟨y, hy, rfl, hby⟩ := hrel
              clear hbx
              by_cases hlty : y < cnt qb j
              · obtain ⟨b, off, rfl, o0, o1, o2⟩ := (hOb.keep hby) y hlty
                obtain ⟨b', off', rfl, p0, p1, p2⟩ := (hO9.keep hby) (cnt qa k + y) (by omega)
                rw [ovAt_right qa qb g lg k j y] at p0 p1 p2
                have hi0 : (0 : Int) ≤ (y : Int) := Int.natCast_nonneg _
                have hi1 : (y : Int) < (cnt qb j : Int) := by omega
                have hi3 : (0 : Int) ≤ (cnt qa k : Int) + (y : Int) := by omega
                have hi2 : (cnt qa k : Int) + (y : Int) < (cnt qa k : Int) + (cnt qb j : Int) := by omega
                have hwr : IntKind.i64.wrap ((cnt qa k : Int) + (y : Int)) = (cnt qa k : Int) + (y : Int) := by rw [IntKind.wrap_i64]; omega
                have htn : ((cnt qa k : Int) + (y : Int)).toNat = cnt qa k + y := by omega
                clear hOa hO9 hOb hBw
                go_wp2_with fail
                go_region_held3 (fun w' => w'.cell? ⟨b, off + y * 3, none⟩ = some (.int .i64 (ovAt qb g lg j y).ln) ∧ w'.cell? ⟨b, off + y * 3 + 1, none⟩ = some (.string (ovAt qb g lg j y).ty) ∧ w'.cell? ⟨b, off + y * 3 + 2, none⟩ = some (.int .i64 (ovAt qb g lg j y).cp) ∧
                w'.cell? ⟨b', off' + (cnt qa k + y) * 3, none⟩ = some (.int .i64 (ovAt qb g lg j y).ln) ∧ w'.cell? ⟨b', off' + (cnt qa k + y) * 3 + 1, none⟩ = some (.string (ovAt qb g lg j y).ty) ∧ w'.cell? ⟨b', off' + (cnt qa k + y) * 3 + 2, none⟩ = some (.int .i64 (ovAt qb g lg j y).cp))
              (first | go_keep | (go_split_ands; refine ⟨?_, ?_, ?_, ?_, ?_, ?_⟩ <;> (refine cell_keep hbc ?_; simp; assumption)))
              (first | (go_at_call 13; refine (same_any (ovAt qb g lg j y) _).mono ?_; rintro e wc ⟨rfl, hbc⟩))

                go_wp2
                go_roundw
                case rel => exact ⟨y + 1, by omega, by go_num, hby.trans ((Below.refl _ _).drew.trans (hbc.mono (by simp; exact hby.size)))⟩
                case measure => simp [intOf]; omega
              · go_wp2
                go_ret
                exact ⟨rfl, hBw.trans (hby.mono hBw.size)⟩
end Go.Proofs.Qxb6625442a
