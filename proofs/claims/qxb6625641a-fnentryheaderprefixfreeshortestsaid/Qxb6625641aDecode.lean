/-
  Seat b6625641a: zzDecodeEntryHeaderB1 at a header.
-/
import Derived.Test.Qxb6625641aBase
import Derived.WalkSpells
import Derived.Laws.Bits64
namespace Go.Proofs.Qxb6625641a
open Go.RowKit

/-- The slice at a, of n bytes, reads as z 0 .. z (n-1). -/
def IsB (w : World) (a : Option Addr) (n : Nat) (z : Nat → Nat) : Prop :=
  ∀ i, i < n → ∃ b off, a = some ⟨b, off, none⟩ ∧ w.cell? ⟨b, off + i, none⟩ = some (.int .u8 (z i : Int))
theorem cell_keep {w w' : World} (h : Below w.heap.size w w') {a : Addr} {v : Value} (hc : w.cell? a = some v) : w'.cell? a = some v :=
  (h.cell (block_lt_of_cell hc)).trans hc
theorem IsB.keep {w w' : World} {a : Option Addr} {n : Nat} {z : Nat → Nat} (hq : IsB w a n z) (h : Below w.heap.size w w') : IsB w' a n z := by
  intro i hi
  obtain ⟨b, off, e, h0⟩ := hq i hi
  exact ⟨b, off, e, cell_keep h h0⟩

theorem and128_tab : ∀ x : Fin 256, x.val &&& 128 = if 128 ≤ x.val then 128 else 0 := by decide +kernel
theorem and128_hi (x : Nat) (h0 : 128 ≤ x) (h1 : x < 256) : bits .and .u8 (x : Int) 128 = 128 := by
  have h := (bits_nat .u8 8 (by decide) wraps_u8 x 128 (by omega) (by omega)).1
  have e := and128_tab ⟨x, h1⟩
  rw [if_pos h0] at e
  rw [show x &&& 128 = 128 from e] at h
  exact_mod_cast h
theorem and128_lo (x : Nat) (h1 : x < 128) : bits .and .u8 (x : Int) 128 = 0 := by
  have h := (bits_nat .u8 8 (by decide) wraps_u8 x 128 (by omega) (by omega)).1
  have e := and128_tab ⟨x, by omega⟩
  rw [if_neg (show ¬ 128 ≤ x by omega)] at e
  rw [show x &&& 128 = 0 from e] at h
  exact_mod_cast h
theorem u8_and127 (x : Nat) (h1 : x < 256) : bits .and .u8 (x : Int) 127 = (x : Int) % 128 := bits_mask .u8 8 (by decide) wraps_u8 7 (by decide) x (by omega) (by omega)

theorem head_facts (T S m : Nat) (hT : T ≤ 7) : bits .and .u8 (hbyte T S m 0 : Int) 15 = (S : Int) % 16 ∧ bits .and .u8 ((hbyte T S m 0 : Int) / 16) 7 = (T : Int) := by
  have e0 : hb T S 0 = T * 16 + S % 16 := rfl
  have hv : hbyte T S m 0 % 16 = S % 16 ∧ hbyte T S m 0 / 16 % 8 = T := by
    unfold hbyte
    split <;> omega
  have hl := hbyte_lt T S m 0 hT
  obtain ⟨y, hy⟩ : ∃ y, y = hbyte T S m 0 := ⟨_, rfl⟩
  rw [← hy] at hv hl ⊢
  constructor
  · have h := bits_mask .u8 8 (by decide) wraps_u8 4 (by decide) (y : Int) (by omega) (by omega)
    exact h.trans (by omega)
  · have h := bits_mask .u8 8 (by decide) wraps_u8 3 (by decide) ((y : Int) / 16) (by omega) (by omega)
    exact h.trans (by omega)
theorem group_fact (T S m j : Nat) (hT : T ≤ 7) : bits .and .u8 (hbyte T S m (j + 1) : Int) 127 = ((S / pw j % 128 : Nat) : Int) := by
  have h1 := u8_and127 _ (hbyte_lt T S m (j + 1) hT)
  have h2 : hb T S (j + 1) = S / pw j % 128 := rfl
  have h3 : hbyte T S m (j + 1) % 128 = S / pw j % 128 := by
    unfold hbyte
    rw [h2]
    split <;> omega
  rw [h1, ← h3]
  rfl
theorem ret_dec {t t' s s' : Int} (h1 : t = t') (h2 : s = s') : Ending.returned (.tuple #[.int .i8 t, .int .i64 s, .bool true]) = .returned (.tuple #[.int .i8 t', .int .i64 s', .bool true]) := by rw [h1, h2]
theorem or_step (S j : Nat) (hS : S < 9223372036854775808) : bits .or .u64 ((S % pw j : Nat) : Int) (IntKind.u64.wrap (((S / pw j % 128 : Nat) : Int) * 2 ^ (4 + 7 * j))) = ((S % pw (j + 1) : Nat) : Int) := by
  have hp : ((2 : Int) ^ (4 + 7 * j)) = ((pw j : Nat) : Int) := by rw [pw_pow]; simp
  have h1 : S / pw j % 128 * pw j ≤ S := Nat.le_trans (Nat.mul_le_mul_right _ (Nat.mod_le _ _)) (Nat.div_mul_le_self S (pw j))
  have h2 : S % pw j < pw j := Nat.mod_lt _ (pw_pos j)
  have h3 : S % pw j ≤ S := Nat.mod_le _ _
  have hw : IntKind.u64.wrap (((S / pw j % 128 : Nat) : Int) * 2 ^ (4 + 7 * j)) = ((S / pw j % 128 * pw j : Nat) : Int) := by
    rw [hp, IntKind.wrap_u64, ← Int.natCast_mul]
    omega
  rw [hw]
  have h4 := (bits_nat .u64 64 (by decide) (fun n h0 h1 => by rw [IntKind.wrap_u64]; omega) (S % pw j) (S / pw j % 128 * pw j) (by omega) (by omega)).2
  rw [h4]
  congr 1
  rw [Nat.or_comm, Nat.mul_comm, pw_pow] at *
  rw [← Nat.two_pow_add_eq_or_of_lt h2, pw_succ, pw_pow, Nat.mod_mul]
  omega
/-- The last of several groups is not zero. -/
theorem last_fact (T S k : Nat) (hm : IsLen S (k + 1)) : k = 0 ∨ (0 < k ∧ ((hb T S k : Int) == 0) = false) := by
  by_cases hk0 : k = 0
  · exact .inl hk0
  · obtain ⟨k', rfl⟩ : ∃ k', k = k' + 1 := ⟨k - 1, by omega⟩
    refine .inr ⟨by omega, ?_⟩
    have h1 := hm.big k' (by omega)
    have h2 := hm.fits
    rw [show k' + 1 + 1 - 1 = k' + 1 by omega, pw_succ] at h2
    have h3 : hb T S (k' + 1) = S / pw k' % 128 := rfl
    have h4 : S / pw k' < 128 := Nat.div_lt_of_lt_mul h2
    have h5 : 0 < S / pw k' := Nat.div_pos h1 (pw_pos k')
    rw [h3]
    have h6 : S / pw k' % 128 ≠ 0 := by omega
    rw [beq_eq_false_iff_ne]
    omega

set_option maxRecDepth 100000 in
set_option maxHeartbeats 1600000 in
theorem decode_any (T S m : Nat) (a : Option Addr) (cap : Nat) (w : World) (hT : T ≤ 7) (hS : S < 9223372036854775808) (hm : IsLen S m) (ha : IsB w a m (hbyte T S m)) :
    Calls Try.prog 8 #[.slice a m cap] w fun e w' => e = .returned (.tuple #[.int .i8 T, .int .i64 S, .bool true]) ∧ w' = w := by
  have hm1 := hm.pos
  have hm2 := hm.le10 hS
  have hmz : ((m : Int) == 0) = false := by simp; omega
  go_enter Try.func8, Try.ntmps8
  go_wp2
  go_loop [6] (fun i => ∃ k : Nat, k + 1 ≤ m ∧ i = .int .i64 k) (fun i => m - (intOf i).toNat)
  case atStart => exact ⟨0, by omega, rfl⟩
  case round =>
    obtain ⟨k, hk, rfl⟩ := hrel
    by_cases hlt : k + 1 < m
    · obtain ⟨b, off, rfl, h0⟩ := ha k (by omega)
      obtain ⟨x, hx⟩ : ∃ x, x = hbyte T S m k := ⟨_, rfl⟩
      have hx1 : 128 ≤ x := by rw [hx]; unfold hbyte; rw [if_pos hlt]; omega
      have hx2 : x < 256 := by rw [hx]; exact hbyte_lt T S m k hT
      rw [← hx] at h0
      have e1 := and128_hi x hx1 hx2
      clear hx ha
      go_wp2
      go_round
      case rel => exact ⟨k + 1, by omega, by go_num⟩
      case measure => simp [intOf]; omega
    · obtain rfl : m = k + 1 := by omega
      obtain ⟨b, off, rfl, h0⟩ := ha k (by omega)
      obtain ⟨x, hx⟩ : ∃ x, x = hbyte T S (k + 1) k := ⟨_, rfl⟩
      rw [← hx] at h0
      have hx1 : x = hb T S k := by rw [hx]; unfold hbyte; rw [if_neg (by omega)]
      have hx2 : x < 128 := by rw [hx1]; exact hb_lt T S k hT
      have e1 := and128_lo x hx2
      obtain ⟨b', off', e', h0'⟩ := ha 0 (by omega)
      simp only [Option.some.injEq, Addr.mk.injEq, and_true] at e'
      obtain ⟨rfl, rfl⟩ := e'
      obtain ⟨y, hy⟩ : ∃ y, y = hbyte T S (k + 1) 0 := ⟨_, rfl⟩
      rw [← hy, Nat.add_zero] at h0'
      have hy2 : y < 256 := by rw [hy]; exact hbyte_lt T S _ _ hT
      have e15 : bits .and .u8 (y : Int) 15 = (S : Int) % 16 := by rw [hy]; exact (head_facts T S (k + 1) hT).1
      have e7 : bits .and .u8 ((y : Int) / 16) 7 = (T : Int) := by rw [hy]; exact (head_facts T S (k + 1) hT).2
      have hxn : k = 0 ∨ (0 < k ∧ ((x : Int) == 0) = false) := by rw [hx1]; exact last_fact T S k hm
      clear hx hx1 hy
      have HM : Hid (IsLen S (k + 1)) := hm
      clear hm
      rcases hxn with rfl | ⟨hk0, hxn⟩
      · rw [Nat.add_zero] at h0
        have hxy : y = x := by have h := h0'.symm.trans h0; simp at h; omega
        subst hxy
        go_wp2
        refine wp_loop_rounds 1 ?_
        rw [rounds_succ]
        have HS : Hid ((S : Int) % 16 = (S : Int)) := by
          have h := HM.out.fits
          rw [show pw (0 + 1 - 1) = 16 from rfl] at h
          show (S : Int) % 16 = (S : Int)
          omega
        go_wp2
        go_ret3
        exact ⟨ret_dec rfl HS.out, rfl⟩
      · go_wp2
        go_loop [8, 9, 10] (fun v sh i => ∃ j c : Nat, j ≤ k ∧ i = .int .i64 (j + 1 : Nat) ∧ sh = .int .u64 (4 + 7 * j : Nat) ∧ v = .int .u64 c ∧ c = S % pw j) (fun _ _ i => k + 1 - (intOf i).toNat)
        case atStart => exact ⟨0, S % 16, by omega, by go_num, by go_num, by go_num, rfl⟩
        case round =>
          obtain ⟨j, c, hj, rfl, rfl, rfl, hc⟩ := hrel
          have HCc : Hid (c = S % pw j) := hc
          clear hc
          by_cases hltj : j + 1 < k + 1
          · obtain ⟨b', off', e', h2⟩ := ha (j + 1) hltj
            simp only [Option.some.injEq, Addr.mk.injEq, and_true] at e'
            obtain ⟨rfl, rfl⟩ := e'
            obtain ⟨z, hz⟩ : ∃ z, z = hbyte T S (k + 1) (j + 1) := ⟨_, rfl⟩
            obtain ⟨gg, hgg⟩ : ∃ gg, gg = S / pw j % 128 := ⟨_, rfl⟩
            rw [← hz] at h2
            have e127 : bits .and .u8 (z : Int) 127 = (gg : Int) := by rw [hz, hgg]; exact group_fact T S (k + 1) j hT
            have hg1 : gg < 128 := by omega
            have HG : Hid (gg = S / pw j % 128) := hgg
            clear hz hgg
            have HO : Hid (bits .or .u64 (c : Int) (IntKind.u64.wrap ((gg : Int) * 2 ^ (4 + 7 * j))) = ((S % pw (j + 1) : Nat) : Int)) := by
              rw [HCc.out, HG.out]; exact or_step S j hS
            by_cases h9 : j = 8
            · have h9' : ((j : Int) + 1 == 9) = true := by rw [beq_iff_eq]; omega
              have hg7 : gg ≤ 7 := by
                rw [HG.out, h9, show pw 8 = 1152921504606846976 by decide]; omega
              clear h9
              go_wp2
              go_round
              case rel => exact ⟨j + 1, _, by omega, by go_num, by go_num, congrArg (Value.int .u64) HO.out, rfl⟩
              case measure => simp [intOf]; omega
            · have h9' : ((j : Int) + 1 == 9) = false := by rw [beq_eq_false_iff_ne]; omega
              go_wp2
              go_round
              case rel => exact ⟨j + 1, _, by omega, by go_num, by go_num, congrArg (Value.int .u64) HO.out, rfl⟩
              case measure => simp [intOf]; omega
          · obtain rfl : j = k := by omega
            have HS : Hid (c = S) := by
              have h := HCc.out
              have hf := HM.out.fits
              rw [Nat.add_sub_cancel] at hf
              rw [Nat.mod_eq_of_lt hf] at h
              exact h
            have hcS : c < 9223372036854775808 := by rw [HS.out]; exact hS
            go_wp2
            go_ret3
            exact ⟨ret_dec rfl (by rw [HS.out]), rfl⟩
end Go.Proofs.Qxb6625641a
