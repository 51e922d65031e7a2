/-
  Seat b6625641a: zzCloneBytesB1, zzBytes_FnEntryHeaderDecodesBack.
-/
import Derived.Test.Qxb6625641aDecode
import Derived.Test.Qxb6625641aAppend
import Derived.Lib.SliceRun
namespace Go.Proofs.Qxb6625641a
open Go.RowKit

/-- n bytes, as values. -/
def bl (z : Nat → Nat) (n : Nat) : List Value := (List.range n).map fun i => .int .u8 (z i : Int)
theorem bl_at (z : Nat → Nat) (n i : Nat) (h : i < n) : (bl z n)[i]? = some (.int .u8 (z i : Int)) := by simp [bl, h]
theorem bl_len (z : Nat → Nat) (n : Nat) : (bl z n).length = n := by simp [bl]
theorem bl_of {z : Nat → Nat} {n : Nat} {xs : List Value} (hl : xs.length = n) (h : ∀ i, i < n → xs[i]? = some (.int .u8 (z i : Int))) : xs = bl z n := by
  apply List.ext_getElem?
  intro i
  by_cases hi : i < n
  · rw [h i hi, bl_at z n i hi]
  · rw [List.getElem?_eq_none (by omega), List.getElem?_eq_none (by rw [bl_len]; omega)]

/-- Block g is the call's own row of n bytes, of which the first k read as z. -/
def RowB (w : World) (base g n k : Nat) (z : Nat → Nat) : Prop :=
  ∃ xs, w.ownsRow base 5 1 (.slice (some ⟨g, 0, none⟩) n n) n xs ∧ ∀ i, i < k → xs[i]? = some (.int .u8 (z i : Int))
theorem RowB.there {w : World} {base g n k : Nat} {z : Nat → Nat} (h : RowB w base g n k z) (j : Nat) (hj : j < n) : ∃ v, w.cell? ⟨g, j, none⟩ = some v := by
  obtain ⟨xs, ho, -⟩ := h
  rw [ho.cellAt j (by omega)]
  exact ⟨_, List.getElem?_eq_getElem (by rw [ho.1]; omega)⟩
theorem RowB.free {w : World} {base g n k : Nat} {z : Nat → Nat} (h : RowB w base g n k z) (j : Nat) : w.frozen? ⟨g, j, none⟩ = false := by
  obtain ⟨xs, ho, -⟩ := h
  exact ho.frozenAt j
theorem RowB.step {w : World} {base g n k : Nat} {z : Nat → Nat} (h : RowB w base g n k z) (hk : k < n) : RowB (w.setCell ⟨g, k, none⟩ (.int .u8 (z k : Int))) base g n (k + 1) z := by
  obtain ⟨xs, ho, hx⟩ := h
  have hl : xs.length = n * 1 := ho.1
  refine ⟨_, (ho.stored k (.int .u8 (z k : Int))).1, fun i hi => ?_⟩
  by_cases e : i = k
  · subst e; rw [List.getElem?_set_self (by omega)]
  · rw [List.getElem?_set_ne (by omega)]; exact hx i (by omega)
theorem RowB.full {w : World} {base g n : Nat} {z : Nat → Nat} (h : RowB w base g n n z) : w.ownsRow base 5 1 (.slice (some ⟨g, 0, none⟩) n n) n (bl z n) := by
  obtain ⟨xs, ho, hx⟩ := h
  rw [← bl_of (by have := ho.1; omega) hx]
  exact ho

set_option maxHeartbeats 400000 in
theorem clone_any (a : Option Addr) (n cap : Nat) (z : Nat → Nat) (w : World) (hn : n ≤ 1048576) (ha : IsB w a n z) :
    Calls Try.prog 6 #[.slice a n cap] w fun e w' => ∃ ao cp, e = .returned (.slice ao n cp) ∧ w'.ownsRow w.heap.size 5 1 (.slice ao n cp) n (bl z n) ∧ Below w.heap.size w w' := by
  have q22 : ∀ (w : World) (a : Option Addr) (n c n' c' : Nat), (binOp .eql 22 (.slice a n c) (.slice none n' c')).run Try.prog w = .ok (.bool a.isNone) w := fun w a n c n' c' => Lib.run_eql_slice_nil w 22 5 a n c n' c' Try.underlying22
  cases a with
  | none =>
    obtain rfl : n = 0 := by
      rcases Nat.eq_zero_or_pos n with h | h
      · exact h
      · obtain ⟨b, off, e, -⟩ := ha 0 h; simp at e
    go_enter Try.func6, Try.ntmps6
    go_wp2
    go_ret
    exact ⟨none, 0, rfl, World.ownsRow_nil _ _ _ _, Below.refl _ _⟩
  | some a =>
    obtain ⟨i0, hi, hz0, hz1, hz2⟩ := info_parts info5
    have hmx : n ≤ maxLen := by unfold maxLen; omega
    go_enter Try.func6, Try.ntmps6
    go_wp2_with (first | (refine wpList_make_full _ rfl _ _ 22 rfl w.heap.size 5 i0 _ 1 Try.underlying22 hi hz0 hz1 .i64 .i64 _ _ n rfl rfl rfl rfl (by rw [hz2]; omega) hmx (Nat.le_refl _) ?_; intro w1 hown hgr))
    have hb1 : Below w.heap.size w w1 := (Below.refl _ _).grown hgr (Nat.le_refl _) (by intro k hk; simp at hk)
    have hr1 : RowB w1 w.heap.size w.heap.size n 0 z := ⟨_, hown, fun i h => absurd h (Nat.not_lt_zero _)⟩
    clear hown hgr hi hz0 hz1 hz2 hmx
    go_loopw [4] (fun i wr => ∃ k : Nat, k ≤ n ∧ i = .int .i64 k ∧ Below w.heap.size w wr ∧ RowB wr w.heap.size w.heap.size n k z) (fun i _ => n - (intOf i).toNat)
    case atStart => exact ⟨0, Nat.zero_le _, rfl, hb1, hr1⟩
    case round =>
      obtain ⟨k, hk, rfl, hb, hr⟩ := hrel
      by_cases hlt : k < n
      · obtain ⟨b, off, e, h0⟩ := (ha.keep hb) k hlt
        simp only [Option.some.injEq] at e
        subst e
        clear ha hb1 hr1
        obtain ⟨v0, e0⟩ := hr.there k hlt
        have f0 := hr.free k
        go_wp2
        go_roundw
        case rel => exact ⟨k + 1, by omega, by go_num, hb.setCell (Nat.le_refl _) _, hr.step hlt⟩
        case measure => simp [intOf]; omega
      · obtain rfl : k = n := by omega
        go_wp2
        go_ret
        exact ⟨_, _, rfl, hr.full, hb⟩

/-- The bound on the length: its answer. -/
theorem bytes_yes (a : Option Addr) (n cap : Nat) (t s : Int) (w : World) (h : n ≤ 1048576) :
    Calls Try.prog 5 #[.slice a n cap, .int .i8 t, .int .i64 s] w fun e w' => e = .returned (.bool true) ∧ w' = w := by
  go_enter Try.func5, Try.ntmps5
  go_wp2
  go_ret
  exact ⟨rfl, rfl⟩
theorem bytes_no (a : Option Addr) (n cap : Nat) (t s : Int) (w : World) (h : 1048576 < n) :
    Calls Try.prog 5 #[.slice a n cap, .int .i8 t, .int .i64 s] w fun e w' => e = .returned (.bool false) ∧ w' = w := by
  go_enter Try.func5, Try.ntmps5
  go_wp2
  go_ret
  exact ⟨rfl, rfl⟩
end Go.Proofs.Qxb6625641a
