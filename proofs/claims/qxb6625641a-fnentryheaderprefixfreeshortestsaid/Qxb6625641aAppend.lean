/-
  Seat b6625641a: appendEntryHeader onto a slice that the call owns (or nil).
-/
import Derived.Test.Qxb6625641aBase
import Derived.WalkSpells
import Derived.Deep.AppendLies
namespace Go.Proofs.Qxb6625641a
open Go.RowKit

theorem info5 : (Try.prog.info? 5).map (fun i => (i.zero, i.size, i.bytes)) = some (some (.int .u8 0), 1, 1) := by kernel_rfl
theorem own_base {w : World} {base : Nat} {e : TypeId} {size : Nat} {v : Value} {n : Nat} {xs : List Value} (h : w.ownsRow base e size v n xs) : ∀ k, v.ownBlock = some k → base ≤ k := by
  rcases h.2 with ⟨rfl, -⟩ | ⟨g, cap, cur, rfl, hg, hh, r⟩
  · simp [Value.ownBlock]
  · intro k e
    simp [Value.ownBlock] at e
    omega
theorem one_u8 (x : Int) : ∀ u ∈ [Value.int .u8 x], u.oneCell' = true := by
  intro u hu
  simp at hu
  subst hu
  rfl

set_option maxRecDepth 100000 in
set_option maxHeartbeats 1600000 in
theorem app_any (T S : Nat) (v : Value) (n base : Nat) (xs : List Value) (w : World) (hT : T ≤ 7) (hS : S < 9223372036854775808) (hown : w.ownsRow base 5 1 v n xs) (hbase : base ≤ w.heap.size) (hn : n ≤ 1048576) :
    Calls Try.prog 12 #[v, .int .i8 T, .int .i64 S] w fun e w' => ∃ g cap m, e = .returned (.slice (some ⟨g, 0, none⟩) (n + m) cap) ∧ IsLen S m ∧
      w'.ownsRow base 5 1 (.slice (some ⟨g, 0, none⟩) (n + m) cap) (n + m) (xs ++ hdv T S m) ∧ Below base w w' := by
  obtain ⟨i0, hi, hz0, hz1, hz2⟩ := info_parts info5
  have e1 := and15 S hS
  have e2 := orHead T S hT
  have e3 : ((S : Int) % 16) % 256 = (S : Int) % 16 := by omega
  go_enter Try.func12, Try.ntmps12
  go_wp2
  go_loopw [0, 2, 7] (fun d s b wr => ∃ i q c : Nat, s = .int .i64 q ∧ b = .int .u8 c ∧ q = S / pw i ∧ c = hb T S i ∧ (∀ j, j < i → pw j ≤ S) ∧ wr.ownsRow base 5 1 d (n + i) (xs ++ hpre T S i) ∧ Below base w wr) (fun _ s _ _ => (intOf s).toNat)
  case atStart => exact ⟨0, S / 16, T * 16 + S % 16, by go_num, by go_num, rfl, rfl, fun j hj => absurd hj (Nat.not_lt_zero _), by simpa [hpre] using hown, Below.refl _ _⟩
  case round =>
    obtain ⟨i, q, c, rfl, rfl, hq, hc, hbig, hownr, hbl⟩ := hrel
    have HQ : Hid (q = S / pw i) := hq
    have HC : Hid (c = hb T S i) := hc
    have HB : Hid (∀ j, j < i → pw j ≤ S) := hbig
    have hcl : c < 128 := by rw [hc]; exact hb_lt T S i hT
    have hql : q < 9223372036854775808 := by rw [hq]; exact Nat.lt_of_le_of_lt (Nat.div_le_self _ _) hS
    have hi10 : i ≤ 9 := by
      by_cases e : i ≤ 9
      · exact e
      · have := hbig 9 (by omega)
        have e : pw 9 = 147573952589676412928 := by decide
        omega
    have hsz := hbl.size
    clear hq hc hbig hown e1 e2 e3
    by_cases hpos : 0 < q
    · have e4 := or128 c hcl
      have e5 := and127 q hql
      have e6 : ((q : Int) % 128) % 256 = (q : Int) % 128 := by omega
      go_wp2_with (first | (at_builtin; refine wpList_append_lies _ rfl _ _ 22 rfl base 5 i0 (.int .u8 0) 1 1 Try.underlying22 hi hz0 hz1 hz2 rfl (by omega) u0 (n + i) (xs ++ hpre T S i) rfl (hownr.alloc _) ⟨wr.heap.size, 0, none⟩ 1 1 [.int .u8 ((c : Int) + 128)] rfl rfl (World.news_of_block (cs := #[.int .u8 ((c : Int) + 128)]) (t := 5) (fr := (0, 0)) (heap_alloc_new wr _)) (one_u8 _) (by omega) (by unfold maxLen; omega) (by omega) (by simp; omega) (wr.heap.size + 1) (by simp) ?_; intro g cap w1 hown1 hgrow hat hlt))
      have hB1 : Below base w w1 := (hbl.alloc (by omega) _).grown hgrow (by simp; omega) (own_base hownr)
      clear hgrow hat
      go_wp2
      go_roundw
      case rel =>
        refine ⟨i + 1, q / 128, q % 128, by go_num, by go_num, ?_, ?_, ?_, ?_, hB1⟩
        · rw [HQ.out, pw_succ, Nat.div_div_eq_div_mul]
        · rw [HQ.out]; rfl
        · intro j hj
          by_cases e : j < i
          · exact HB.out j e
          · obtain rfl : j = i := by omega
            have h1 := HQ.out
            by_cases h2 : pw j ≤ S
            · exact h2
            · rw [Nat.div_eq_of_lt (by omega)] at h1; omega
        · rw [hpre_succ, ← List.append_assoc, ← HC.out]
          exact hown1
      case measure => simp [intOf]; omega
    · have hq0 : q = 0 := by omega
      have HF : Hid (S < pw i) := by
        have h1 := HQ.out
        rw [hq0] at h1
        by_cases h2 : S < pw i
        · exact h2
        · have := Nat.div_pos (Nat.le_of_not_lt h2) (pw_pos i)
          omega
      clear hq0
      go_wp2_with (first | (at_builtin; refine wpList_append_lies _ rfl _ _ 22 rfl base 5 i0 (.int .u8 0) 1 1 Try.underlying22 hi hz0 hz1 hz2 rfl (by omega) u0 (n + i) (xs ++ hpre T S i) rfl (hownr.alloc _) ⟨wr.heap.size, 0, none⟩ 1 1 [.int .u8 (c : Int)] rfl rfl (World.news_of_block (cs := #[.int .u8 (c : Int)]) (t := 5) (fr := (0, 0)) (heap_alloc_new wr _)) (one_u8 _) (by omega) (by unfold maxLen; omega) (by omega) (by simp; omega) (wr.heap.size + 1) (by simp) ?_; intro g cap w1 hown1 hgrow hat hlt))
      have hB1 : Below base w w1 := (hbl.alloc (by omega) _).grown hgrow (by simp; omega) (own_base hownr)
      go_ret
      refine ⟨g, cap, i + 1, rfl, ⟨by omega, fun j hj => HB.out j (by omega), HF.out⟩, ?_, hB1⟩
      rw [hdv_eq, ← List.append_assoc, ← HC.out]
      exact hown1

/-- ZZappendEntryHeader. -/
theorem zzapp_any (T S : Nat) (v : Value) (n base : Nat) (xs : List Value) (w : World) (hT : T ≤ 7) (hS : S < 9223372036854775808) (hown : w.ownsRow base 5 1 v n xs) (hbase : base ≤ w.heap.size) (hn : n ≤ 1048576) :
    Calls Try.prog 7 #[v, .int .i8 T, .int .i64 S] w fun e w' => ∃ g cap m, e = .returned (.slice (some ⟨g, 0, none⟩) (n + m) cap) ∧ IsLen S m ∧
      w'.ownsRow base 5 1 (.slice (some ⟨g, 0, none⟩) (n + m) cap) (n + m) (xs ++ hdv T S m) ∧ Below base w w' := by
  go_enter Try.func7, Try.ntmps7
  go_wp2_with fail
  refine (app_any T S v n base xs _ hT hS hown hbase hn).mono ?_
  rintro e w1 ⟨g, cap, m, rfl, h1, h2, h3⟩
  go_wp2
  go_ret
  exact ⟨g, cap, m, rfl, h1, h2, h3⟩
end Go.Proofs.Qxb6625641a
