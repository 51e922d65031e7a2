import Derived.Test.Qxb6625442aReads
namespace Go.Proofs.Qxb6625442a
open Go.RowKit

def QFit (q : Nat → Qt) (n : Nat) : Prop := ∀ i, i < n → (q i).ty.size ≤ 1048576
def AFit (q : Nat → Al) (n : Nat) : Prop := ∀ i, i < n → (q i).ty.size ≤ 1048576
theorem QFit.zero (q : Nat → Qt) : QFit q 0 := fun _ h => absurd h (Nat.not_lt_zero _)
theorem AFit.zero (q : Nat → Al) : AFit q 0 := fun _ h => absurd h (Nat.not_lt_zero _)
theorem QFit.succ {q : Nat → Qt} {k : Nat} (h : QFit q k) (hk : (q k).ty.size ≤ 1048576) : QFit q (k + 1) := fun i hi => by
  by_cases e : i < k
  · exact h i e
  · obtain rfl : i = k := by omega
    exact hk
theorem AFit.succ {q : Nat → Al} {k : Nat} (h : AFit q k) (hk : (q k).ty.size ≤ 1048576) : AFit q (k + 1) := fun i hi => by
  by_cases e : i < k
  · exact h i e
  · obtain rfl : i = k := by omega
    exact hk

/-- A guard's answer: a bool, the world as it was; and where it is true, P holds. -/
def Guard (w : World) (P : Prop) (e : Ending) (w' : World) : Prop := ∃ r, e = .returned (.bool r) ∧ w' = w ∧ (r = true → P)
theorem Guard.no (w : World) (P : Prop) : Guard w P (.returned (.bool false)) w := ⟨false, rfl, rfl, fun h => by simp at h⟩
theorem Guard.yes (w : World) {P : Prop} (h : P) : Guard w P (.returned (.bool true)) w := ⟨true, rfl, rfl, fun _ => h⟩

set_option maxHeartbeats 1000000 in
theorem bytesE_any (a : Option Addr) (len cap : Nat) (q : Nat → Qt) (ag : Option Addr) (lg cg : Nat) (g : Nat → Al) (w : World) (hl : len ≤ maxLen) (hlg : lg ≤ maxLen) (hq : IsQ w a len q) (hg : IsA w ag lg g) :
    Calls Try.prog 5 #[.slice a len cap, .slice ag lg cg] w (Guard w (QFit q len ∧ AFit g lg)) := by
  unfold maxLen at hl hlg
  by_cases c1 : len ≤ 1048576
  · go_enter Try.func5, Try.ntmps5
    go_wp2
    go_loop [5, 6] (fun z i => ∃ (k : Nat) (t : Int), k ≤ len ∧ i = .int .i64 k ∧ z = .int .i64 t ∧ 0 ≤ t ∧ t ≤ 1048576 ∧ QFit q k) (fun _ i => len - (intOf i).toNat)
    case atStart => exact ⟨0, _, Nat.zero_le _, rfl, rfl, by omega, by omega, QFit.zero q⟩
    case round =>
      obtain ⟨k, t, hk, rfl, rfl, ht0, ht1, hf⟩ := hrel
      by_cases hlt : k < len
      · obtain ⟨b, off, rfl, h0, -⟩ := hq k hlt
        clear hq hg
        by_cases hs : (q k).ty.size ≤ 1048576
        · by_cases hs2 : t + (q k).ty.size ≤ 1048576
          · go_wp2
            go_round
            case rel => exact ⟨k + 1, _, by omega, by go_num, rfl, by omega, by omega, hf.succ hs⟩
            case measure => simp [intOf]; omega
          · go_wp2
            go_ret
            exact Guard.no _ _
        · go_wp2
          go_ret
          exact Guard.no _ _
      · obtain rfl : k = len := by omega
        clear hq
        by_cases c2 : lg ≤ 1048576
        · by_cases c3 : t + lg ≤ 1048576
          · go_wp2
            go_loop [5, 7] (fun z i => ∃ (k : Nat) (t : Int), k ≤ lg ∧ i = .int .i64 k ∧ z = .int .i64 t ∧ 0 ≤ t ∧ t ≤ 1048576 ∧ AFit g k) (fun _ i => lg - (intOf i).toNat)
            case atStart => exact ⟨0, _, Nat.zero_le _, rfl, rfl, by omega, by omega, AFit.zero g⟩
            case round =>
              obtain ⟨k', t', hk', rfl, rfl, ht0', ht1', hf'⟩ := hrel
              by_cases hlt' : k' < lg
              · obtain ⟨b, off, rfl, h0, -⟩ := hg k' hlt'
                clear hg
                by_cases hs : (g k').ty.size ≤ 1048576
                · by_cases hs2 : t' + (g k').ty.size ≤ 1048576
                  · go_wp2
                    go_round
                    case rel => exact ⟨k' + 1, _, by omega, by go_num, rfl, by omega, by omega, hf'.succ hs⟩
                    case measure => simp [intOf]; omega
                  · go_wp2
                    go_ret
                    exact Guard.no _ _
                · go_wp2
                  go_ret
                  exact Guard.no _ _
              · obtain rfl : k' = lg := by omega
                go_wp2
                go_ret
                exact Guard.yes _ (by first | exact ⟨hf, hf'⟩ | trivial)
          · go_wp2
            go_ret
            exact Guard.no _ _
        · go_wp2
          go_ret
          exact Guard.no _ _
  · go_enter Try.func5, Try.ntmps5
    go_wp2
    go_ret
    exact Guard.no _ _
set_option maxHeartbeats 2000000 in
theorem bytesC_any (aa : Option Addr) (la ca : Nat) (qa : Nat → Qt) (ab : Option Addr) (lb cb : Nat) (qb : Nat → Qt) (ag : Option Addr) (lg cg : Nat) (g : Nat → Al) (w : World)
    (hla : la ≤ maxLen) (hlb : lb ≤ maxLen) (hlg : lg ≤ maxLen) (ha : IsQ w aa la qa) (hb : IsQ w ab lb qb) (hg : IsA w ag lg g) :
    Calls Try.prog 12 #[.slice aa la ca, .slice ab lb cb, .slice ag lg cg] w (Guard w (QFit qa la ∧ QFit qb lb ∧ AFit g lg)) := by
  unfold maxLen at hla hlb hlg
  by_cases c0 : la ≤ 1048576
  · go_enter Try.func12, Try.ntmps12
    go_wp2
    go_loop [7, 8] (fun z i => ∃ (k : Nat) (t : Int), k ≤ la ∧ i = .int .i64 k ∧ z = .int .i64 t ∧ 0 ≤ t ∧ t ≤ 1048576 ∧ QFit qa k) (fun _ i => la - (intOf i).toNat)
    case atStart => exact ⟨0, _, Nat.zero_le _, rfl, rfl, by omega, by omega, QFit.zero qa⟩
    case round =>
      obtain ⟨k0, t0, hkk0, rfl, rfl, h0t0, h1t0, f0⟩ := hrel
      by_cases hltk0 : k0 < la
      · obtain ⟨b, off, rfl, h0, -⟩ := ha k0 hltk0
        clear ha hb hg
        by_cases hs : (qa k0).ty.size ≤ 1048576
        · by_cases hs2 : t0 + (qa k0).ty.size ≤ 1048576
          · go_wp2
            go_round
            case rel => exact ⟨k0 + 1, _, by omega, by go_num, rfl, by omega, by omega, f0.succ hs⟩
            case measure => simp [intOf]; omega
          · go_wp2
            go_ret
            exact Guard.no _ _
        · go_wp2
          go_ret
          exact Guard.no _ _
      · obtain rfl : k0 = la := by omega
        by_cases c1 : lb ≤ 1048576
        · by_cases d1 : t0 + lb ≤ 1048576
          · go_wp2
            go_loop [7, 9] (fun z i => ∃ (k : Nat) (t : Int), k ≤ lb ∧ i = .int .i64 k ∧ z = .int .i64 t ∧ 0 ≤ t ∧ t ≤ 1048576 ∧ QFit qb k) (fun _ i => lb - (intOf i).toNat)
            case atStart => exact ⟨0, _, Nat.zero_le _, rfl, rfl, by omega, by omega, QFit.zero qb⟩
            case round =>
              obtain ⟨k1, t1, hkk1, rfl, rfl, h0t1, h1t1, f1⟩ := hrel
              by_cases hltk1 : k1 < lb
              · obtain ⟨b, off, rfl, h0, -⟩ := hb k1 hltk1
                clear ha hb hg
                by_cases hs : (qb k1).ty.size ≤ 1048576
                · by_cases hs2 : t1 + (qb k1).ty.size ≤ 1048576
                  · go_wp2
                    go_round
                    case rel => exact ⟨k1 + 1, _, by omega, by go_num, rfl, by omega, by omega, f1.succ hs⟩
                    case measure => simp [intOf]; omega
                  · go_wp2
                    go_ret
                    exact Guard.no _ _
                · go_wp2
                  go_ret
                  exact Guard.no _ _
              · obtain rfl : k1 = lb := by omega
                by_cases c2 : lg ≤ 1048576
                · by_cases d2 : t1 + lg ≤ 1048576
                  · go_wp2
                    go_loop [7, 10] (fun z i => ∃ (k : Nat) (t : Int), k ≤ lg ∧ i = .int .i64 k ∧ z = .int .i64 t ∧ 0 ≤ t ∧ t ≤ 1048576 ∧ AFit g k) (fun _ i => lg - (intOf i).toNat)
                    case atStart => exact ⟨0, _, Nat.zero_le _, rfl, rfl, by omega, by omega, AFit.zero g⟩
                    case round =>
                      obtain ⟨k2, t2, hkk2, rfl, rfl, h0t2, h1t2, f2⟩ := hrel
                      by_cases hltk2 : k2 < lg
                      · obtain ⟨b, off, rfl, h0, -⟩ := hg k2 hltk2
                        clear ha hb hg
                        by_cases hs : (g k2).ty.size ≤ 1048576
                        · by_cases hs2 : t2 + (g k2).ty.size ≤ 1048576
                          · go_wp2
                            go_round
                            case rel => exact ⟨k2 + 1, _, by omega, by go_num, rfl, by omega, by omega, f2.succ hs⟩
                            case measure => simp [intOf]; omega
                          · go_wp2
                            go_ret
                            exact Guard.no _ _
                        · go_wp2
                          go_ret
                          exact Guard.no _ _
                      · obtain rfl : k2 = lg := by omega
                        go_wp2
                        go_ret
                        exact Guard.yes _ (by first | exact ⟨f0, f1, f2⟩ | trivial)
                  · go_wp2
                    go_ret
                    exact Guard.no _ _
                · go_wp2
                  go_ret
                  exact Guard.no _ _
          · go_wp2
            go_ret
            exact Guard.no _ _
        · go_wp2
          go_ret
          exact Guard.no _ _
  · go_enter Try.func12, Try.ntmps12
    go_wp2
    go_ret
    exact Guard.no _ _

set_option maxHeartbeats 2000000 in
theorem fits_any (aa : Option Addr) (la ca : Nat) (qa : Nat → Qt) (ab : Option Addr) (lb cb : Nat) (qb : Nat → Qt) (ag : Option Addr) (lg cg : Nat) (g : Nat → Al) (w : World)
    (hla : la ≤ maxLen) (hlb : lb ≤ maxLen) (hlg : lg ≤ maxLen) (ha : IsQ w aa la qa) (hb : IsQ w ab lb qb) (hg : IsA w ag lg g) (fa : QFit qa la) (fb : QFit qb lb) (fg : AFit g lg) :
    Calls Try.prog 6 #[.slice aa la ca, .slice ab lb cb, .slice ag lg cg] w (Guard w (la ≤ 32768 ∧ lb ≤ 32768 ∧ lg ≤ 32768)) := by
  unfold maxLen at hla hlb hlg
  by_cases c1 : la ≤ 32768
  · by_cases c2 : lb ≤ 32768
    · by_cases c3 : lg ≤ 32768
      · by_cases c4 : (32 * la + 32 * lb + 24 * lg : Int) ≤ 1048576
        · go_enter Try.func6, Try.ntmps6
          go_wp2
          go_loop [7, 8] (fun z i => ∃ (k : Nat) (t : Int), k ≤ la ∧ i = .int .i64 k ∧ z = .int .i64 t ∧ 0 ≤ t ∧ t ≤ 1048576) (fun _ i => la - (intOf i).toNat)
          case atStart => exact ⟨0, _, Nat.zero_le _, rfl, rfl, by omega, by omega⟩
          case round =>
            obtain ⟨k0, t0, hkk0, rfl, rfl, h0t0, h1t0⟩ := hrel
            by_cases hltk0 : k0 < la
            · obtain ⟨b, off, rfl, h0, -⟩ := ha k0 hltk0
              have hs := fa k0 hltk0
              clear ha hb hg fa fb fg
              by_cases hs2 : t0 + (qa k0).ty.size ≤ 1048576
              · go_wp2
                go_round
                case rel => exact ⟨k0 + 1, _, by omega, by go_num, rfl, by omega, by omega⟩
                case measure => simp [intOf]; omega
              · go_wp2
                go_ret
                exact Guard.no _ _
            · obtain rfl : k0 = la := by omega
              go_wp2
              go_loop [7, 9] (fun z i => ∃ (k : Nat) (t : Int), k ≤ lb ∧ i = .int .i64 k ∧ z = .int .i64 t ∧ 0 ≤ t ∧ t ≤ 1048576) (fun _ i => lb - (intOf i).toNat)
              case atStart => exact ⟨0, _, Nat.zero_le _, rfl, rfl, by omega, by omega⟩
              case round =>
                obtain ⟨k1, t1, hkk1, rfl, rfl, h0t1, h1t1⟩ := hrel
                by_cases hltk1 : k1 < lb
                · obtain ⟨b, off, rfl, h0, -⟩ := hb k1 hltk1
                  have hs := fb k1 hltk1
                  clear ha hb hg fa fb fg
                  by_cases hs2 : t1 + (qb k1).ty.size ≤ 1048576
                  · go_wp2
                    go_round
                    case rel => exact ⟨k1 + 1, _, by omega, by go_num, rfl, by omega, by omega⟩
                    case measure => simp [intOf]; omega
                  · go_wp2
                    go_ret
                    exact Guard.no _ _
                · obtain rfl : k1 = lb := by omega
                  go_wp2
                  go_loop [7, 10] (fun z i => ∃ (k : Nat) (t : Int), k ≤ lg ∧ i = .int .i64 k ∧ z = .int .i64 t ∧ 0 ≤ t ∧ t ≤ 1048576) (fun _ i => lg - (intOf i).toNat)
                  case atStart => exact ⟨0, _, Nat.zero_le _, rfl, rfl, by omega, by omega⟩
                  case round =>
                    obtain ⟨k2, t2, hkk2, rfl, rfl, h0t2, h1t2⟩ := hrel
                    by_cases hltk2 : k2 < lg
                    · obtain ⟨b, off, rfl, h0, -⟩ := hg k2 hltk2
                      have hs := fg k2 hltk2
                      clear ha hb hg fa fb fg
                      by_cases hs2 : t2 + (g k2).ty.size ≤ 1048576
                      · go_wp2
                        go_round
                        case rel => exact ⟨k2 + 1, _, by omega, by go_num, rfl, by omega, by omega⟩
                        case measure => simp [intOf]; omega
                      · go_wp2
                        go_ret
                        exact Guard.no _ _
                    · obtain rfl : k2 = lg := by omega
                      go_wp2
                      go_ret
                      exact Guard.yes _ (by first | exact ⟨c1, c2, c3⟩ | trivial)
        · go_enter Try.func6, Try.ntmps6
          go_wp2
          go_ret
          exact Guard.no _ _
      · go_enter Try.func6, Try.ntmps6
        go_wp2
        go_ret
        exact Guard.no _ _
    · go_enter Try.func6, Try.ntmps6
      go_wp2
      go_ret
      exact Guard.no _ _
  · go_enter Try.func6, Try.ntmps6
    go_wp2
    go_ret
    exact Guard.no _ _
end Go.Proofs.Qxb6625442a
