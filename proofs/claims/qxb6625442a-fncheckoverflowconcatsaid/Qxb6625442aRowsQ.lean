/-
  Seat b6625442a: a row of quotas (four cells each) or allowances (two) that the call itself makes and fills.
-/
import Derived.Test.Qxb6625442aBase
namespace Go.Proofs.Qxb6625442a
open Go.RowKit

/-- Block g is the call's own row of n quotas, of which those with D i read as q i. -/
def RowQ (w : World) (base g n : Nat) (D : Nat → Prop) (q : Nat → Qt) : Prop :=
  ∃ xs, w.ownsRow base 39 4 (.slice (some ⟨g, 0, none⟩) n n) n xs ∧ ∀ i, i < n → D i →
    xs[i * 4]? = some (.string (q i).ty) ∧ xs[i * 4 + 1]? = some (.int .i64 (q i).cp) ∧ xs[i * 4 + 2]? = some (.int .i64 (q i).cm) ∧ xs[i * 4 + 3]? = some (.int .i64 (q i).rs)

theorem RowQ.lt {w : World} {base g n : Nat} {D : Nat → Prop} {q : Nat → Qt} (h : RowQ w base g n D q) : g < w.heap.size ∧ base ≤ g := by
  obtain ⟨xs, ⟨_, h2⟩, -⟩ := h
  rcases h2 with ⟨h', -⟩ | ⟨g', cap', cur, h', hb, hg, -⟩
  · simp at h'
  · simp only [Value.slice.injEq, Option.some.injEq, Addr.mk.injEq, and_true, true_and] at h'
    obtain ⟨rfl, rfl⟩ := h'
    refine ⟨?_, hb⟩
    by_cases e : g < w.heap.size
    · exact e
    · rw [Array.getElem?_eq_none (by omega)] at hg; simp at hg

theorem RowQ.there {w : World} {base g n : Nat} {D : Nat → Prop} {q : Nat → Qt} (h : RowQ w base g n D q) (j : Nat) (hj : j < n * 4) : ∃ v, w.cell? ⟨g, j, none⟩ = some v := by
  obtain ⟨xs, ho, -⟩ := h
  rw [ho.cellAt j hj]
  exact ⟨_, List.getElem?_eq_getElem (by rw [ho.1]; exact hj)⟩
theorem RowQ.free {w : World} {base g n : Nat} {D : Nat → Prop} {q : Nat → Qt} (h : RowQ w base g n D q) (j : Nat) : w.frozen? ⟨g, j, none⟩ = false := by
  obtain ⟨xs, ho, -⟩ := h
  exact ho.frozenAt j

theorem RowQ.step {w : World} {base g n : Nat} {D : Nat → Prop} {q : Nat → Qt} (h : RowQ w base g n D q) (k : Nat) (hk : k < n) :
    RowQ ((((w.setCell ⟨g, k * 4, none⟩ (.string (q k).ty)).setCell ⟨g, k * 4 + 1, none⟩ (.int .i64 (q k).cp)).setCell ⟨g, k * 4 + 2, none⟩ (.int .i64 (q k).cm)).setCell ⟨g, k * 4 + 3, none⟩ (.int .i64 (q k).rs)) base g n (fun i => D i ∨ i = k) q := by
  obtain ⟨xs, ho, hx⟩ := h
  have h1 := (ho.stored (k * 4) (.string (q k).ty)).1
  have h2 := (h1.stored (k * 4 + 1) (.int .i64 (q k).cp)).1
  have h3 := (h2.stored (k * 4 + 2) (.int .i64 (q k).cm)).1
  have h4 := (h3.stored (k * 4 + 3) (.int .i64 (q k).rs)).1
  have hl : xs.length = n * 4 := ho.1
  refine ⟨_, h4, fun i hi hd => ?_⟩
  by_cases e : i = k
  · subst e
    refine ⟨?_, ?_, ?_, ?_⟩
    · rw [List.getElem?_set_ne (by omega), List.getElem?_set_ne (by omega), List.getElem?_set_ne (by omega), List.getElem?_set_self (by omega)]
    · rw [List.getElem?_set_ne (by omega), List.getElem?_set_ne (by omega), List.getElem?_set_self (by simp; omega)]
    · rw [List.getElem?_set_ne (by omega), List.getElem?_set_self (by simp; omega)]
    · rw [List.getElem?_set_self (by simp; omega)]
  · have hd' : D i := hd.resolve_right e
    obtain ⟨a, b, c, d⟩ := hx i hi hd'
    refine ⟨?_, ?_, ?_, ?_⟩
    all_goals rw [List.getElem?_set_ne (by omega), List.getElem?_set_ne (by omega), List.getElem?_set_ne (by omega), List.getElem?_set_ne (by omega)]; assumption

theorem RowQ.isQ {w : World} {base g n : Nat} {D : Nat → Prop} {q : Nat → Qt} (h : RowQ w base g n D q) (hD : ∀ i, i < n → D i) : IsQ w (some ⟨g, 0, none⟩) n q := by
  obtain ⟨xs, ho, hx⟩ := h
  intro i hi
  obtain ⟨a, b, c, d⟩ := hx i hi (hD i hi)
  refine ⟨g, 0, rfl, ?_, ?_, ?_, ?_⟩
  · rw [Nat.zero_add, ho.cellAt _ (by omega)]; exact a
  · rw [Nat.zero_add, ho.cellAt _ (by omega)]; exact b
  · rw [Nat.zero_add, ho.cellAt _ (by omega)]; exact c
  · rw [Nat.zero_add, ho.cellAt _ (by omega)]; exact d

theorem RowQ.congr {w : World} {base g n : Nat} {D D' : Nat → Prop} {q : Nat → Qt} (h : RowQ w base g n D q) (e : ∀ i, i < n → D' i → D i) : RowQ w base g n D' q := by
  obtain ⟨xs, ho, hx⟩ := h
  exact ⟨xs, ho, fun i hi hd => hx i hi (e i hi hd)⟩

theorem RowQ.made {w : World} {base g n : Nat} {xs : List Value} (q : Nat → Qt) (ho : w.ownsRow base 39 4 (.slice (some ⟨g, 0, none⟩) n n) n xs) : RowQ w base g n (fun _ => False) q :=
  ⟨xs, ho, fun _ _ h => h.elim⟩

/-- Block g is the call's own row of n allowances, of which those with D i read as q i. -/
def RowA (w : World) (base g n : Nat) (D : Nat → Prop) (q : Nat → Al) : Prop :=
  ∃ xs, w.ownsRow base 43 2 (.slice (some ⟨g, 0, none⟩) n n) n xs ∧ ∀ i, i < n → D i →
    xs[i * 2]? = some (.string (q i).ty) ∧ xs[i * 2 + 1]? = some (.int .i64 (q i).am)

theorem RowA.lt {w : World} {base g n : Nat} {D : Nat → Prop} {q : Nat → Al} (h : RowA w base g n D q) : g < w.heap.size ∧ base ≤ g := by
  obtain ⟨xs, ⟨_, h2⟩, -⟩ := h
  rcases h2 with ⟨h', -⟩ | ⟨g', cap', cur, h', hb, hg, -⟩
  · simp at h'
  · simp only [Value.slice.injEq, Option.some.injEq, Addr.mk.injEq, and_true, true_and] at h'
    obtain ⟨rfl, rfl⟩ := h'
    refine ⟨?_, hb⟩
    by_cases e : g < w.heap.size
    · exact e
    · rw [Array.getElem?_eq_none (by omega)] at hg; simp at hg

theorem RowA.there {w : World} {base g n : Nat} {D : Nat → Prop} {q : Nat → Al} (h : RowA w base g n D q) (j : Nat) (hj : j < n * 2) : ∃ v, w.cell? ⟨g, j, none⟩ = some v := by
  obtain ⟨xs, ho, -⟩ := h
  rw [ho.cellAt j hj]
  exact ⟨_, List.getElem?_eq_getElem (by rw [ho.1]; exact hj)⟩
theorem RowA.free {w : World} {base g n : Nat} {D : Nat → Prop} {q : Nat → Al} (h : RowA w base g n D q) (j : Nat) : w.frozen? ⟨g, j, none⟩ = false := by
  obtain ⟨xs, ho, -⟩ := h
  exact ho.frozenAt j

theorem RowA.step {w : World} {base g n : Nat} {D : Nat → Prop} {q : Nat → Al} (h : RowA w base g n D q) (k : Nat) (hk : k < n) :
    RowA ((w.setCell ⟨g, k * 2, none⟩ (.string (q k).ty)).setCell ⟨g, k * 2 + 1, none⟩ (.int .i64 (q k).am)) base g n (fun i => D i ∨ i = k) q := by
  obtain ⟨xs, ho, hx⟩ := h
  have h1 := (ho.stored (k * 2) (.string (q k).ty)).1
  have h2 := (h1.stored (k * 2 + 1) (.int .i64 (q k).am)).1
  have hl : xs.length = n * 2 := ho.1
  refine ⟨_, h2, fun i hi hd => ?_⟩
  by_cases e : i = k
  · subst e
    refine ⟨?_, ?_⟩
    · rw [List.getElem?_set_ne (by omega), List.getElem?_set_self (by omega)]
    · rw [List.getElem?_set_self (by simp; omega)]
  · have hd' : D i := hd.resolve_right e
    obtain ⟨a, b⟩ := hx i hi hd'
    refine ⟨?_, ?_⟩
    all_goals rw [List.getElem?_set_ne (by omega), List.getElem?_set_ne (by omega)]; assumption

theorem RowA.isA {w : World} {base g n : Nat} {D : Nat → Prop} {q : Nat → Al} (h : RowA w base g n D q) (hD : ∀ i, i < n → D i) : IsA w (some ⟨g, 0, none⟩) n q := by
  obtain ⟨xs, ho, hx⟩ := h
  intro i hi
  obtain ⟨a, b⟩ := hx i hi (hD i hi)
  refine ⟨g, 0, rfl, ?_, ?_⟩
  · rw [Nat.zero_add, ho.cellAt _ (by omega)]; exact a
  · rw [Nat.zero_add, ho.cellAt _ (by omega)]; exact b

theorem RowA.congr {w : World} {base g n : Nat} {D D' : Nat → Prop} {q : Nat → Al} (h : RowA w base g n D q) (e : ∀ i, i < n → D' i → D i) : RowA w base g n D' q := by
  obtain ⟨xs, ho, hx⟩ := h
  exact ⟨xs, ho, fun i hi hd => hx i hi (e i hi hd)⟩

theorem RowA.made {w : World} {base g n : Nat} {xs : List Value} (q : Nat → Al) (ho : w.ownsRow base 43 2 (.slice (some ⟨g, 0, none⟩) n n) n xs) : RowA w base g n (fun _ => False) q :=
  ⟨xs, ho, fun _ _ h => h.elim⟩


theorem info39 : (Try.prog.info? 39).map (fun i => (i.zero, i.size, i.bytes)) = some (some (.agg #[.string ByteArray.empty, .int .i64 0, .int .i64 0, .int .i64 0]), 4, 40) := by kernel_rfl
theorem info43 : (Try.prog.info? 43).map (fun i => (i.zero, i.size, i.bytes)) = some (some (.agg #[.string ByteArray.empty, .int .i64 0]), 2, 24) := by kernel_rfl

set_option maxHeartbeats 400000 in
theorem toQ_any (a : Option Addr) (len cap : Nat) (q : Nat → Qt) (w : World) (hl : len ≤ 1048576) (hq : IsQ w a len q) :
    Calls Try.prog 7 #[.slice a len cap] w fun e w' => e = .returned (.slice (some ⟨w.heap.size, 0, none⟩) len len) ∧ IsQ w' (some ⟨w.heap.size, 0, none⟩) len q ∧ Below w.heap.size w w' := by
  obtain ⟨i0, hi, hz0, hz1, hz2⟩ := info_parts info39
  have hmx : len ≤ maxLen := by unfold maxLen; omega
  go_enter Try.func7, Try.ntmps7
  go_wp2_with (first | (refine wpList_make_full _ rfl _ _ 26 rfl w.heap.size 39 i0 _ 4 Try.underlying26 hi hz0 hz1 .i64 .i64 _ _ len rfl rfl rfl rfl (by rw [hz2]; omega) hmx (Nat.le_refl _) ?_; intro w1 hown hgr))
  have hb1 : Below w.heap.size w w1 := (Below.refl _ _).grown hgr (Nat.le_refl _) (by intro k hk; simp at hk)
  have hr1 := RowQ.made q hown
  clear hown hgr hi hz0 hz1 hz2 hmx
  go_loopw [4] (fun i wr => ∃ k : Nat, k ≤ len ∧ i = .int .i64 k ∧ Below w.heap.size w wr ∧ RowQ wr w.heap.size w.heap.size len (fun i => i < k) q) (fun i _ => len - (intOf i).toNat)
  case atStart => exact ⟨0, Nat.zero_le _, rfl, hb1, hr1.congr (fun i _ h => absurd h (Nat.not_lt_zero _))⟩
  case round =>
    obtain ⟨k, hk, rfl, hb, hr⟩ := hrel
    by_cases hlt : k < len
    · obtain ⟨b, off, rfl, h0, h1, h2, h3⟩ := (hq.keep hb) k hlt
      clear hq hb1 hr1
      obtain ⟨v0, e0⟩ := hr.there (k * 4) (by omega)
      obtain ⟨v1, e1⟩ := hr.there (k * 4 + 1) (by omega)
      obtain ⟨v2, e2⟩ := hr.there (k * 4 + 2) (by omega)
      obtain ⟨v3, e3⟩ := hr.there (k * 4 + 3) (by omega)
      have f0 := hr.free (k * 4)
      have f1 := hr.free (k * 4 + 1)
      have f2 := hr.free (k * 4 + 2)
      have f3 := hr.free (k * 4 + 3)
      go_wp2
      go_roundw
      case rel => exact ⟨k + 1, by omega, by go_num, (((hb.setCell (Nat.le_refl _) _).setCell (Nat.le_refl _) _).setCell (Nat.le_refl _) _).setCell (Nat.le_refl _) _, (hr.step k hlt).congr (fun i _ h => by omega)⟩
      case measure => simp [intOf]; omega
    · go_wp2
      go_ret
      exact ⟨rfl, hr.isQ (fun i hi => by omega), hb⟩

set_option maxHeartbeats 400000 in
theorem toA_any (a : Option Addr) (len cap : Nat) (q : Nat → Al) (w : World) (hl : len ≤ 1048576) (hq : IsA w a len q) :
    Calls Try.prog 8 #[.slice a len cap] w fun e w' => e = .returned (.slice (some ⟨w.heap.size, 0, none⟩) len len) ∧ IsA w' (some ⟨w.heap.size, 0, none⟩) len q ∧ Below w.heap.size w w' := by
  obtain ⟨i0, hi, hz0, hz1, hz2⟩ := info_parts info43
  have hmx : len ≤ maxLen := by unfold maxLen; omega
  go_enter Try.func8, Try.ntmps8
  go_wp2_with (first | (refine wpList_make_full _ rfl _ _ 28 rfl w.heap.size 43 i0 _ 2 Try.underlying28 hi hz0 hz1 .i64 .i64 _ _ len rfl rfl rfl rfl (by rw [hz2]; omega) hmx (Nat.le_refl _) ?_; intro w1 hown hgr))
  have hb1 : Below w.heap.size w w1 := (Below.refl _ _).grown hgr (Nat.le_refl _) (by intro k hk; simp at hk)
  have hr1 := RowA.made q hown
  clear hown hgr hi hz0 hz1 hz2 hmx
  go_loopw [4] (fun i wr => ∃ k : Nat, k ≤ len ∧ i = .int .i64 k ∧ Below w.heap.size w wr ∧ RowA wr w.heap.size w.heap.size len (fun i => i < k) q) (fun i _ => len - (intOf i).toNat)
  case atStart => exact ⟨0, Nat.zero_le _, rfl, hb1, hr1.congr (fun i _ h => absurd h (Nat.not_lt_zero _))⟩
  case round =>
    obtain ⟨k, hk, rfl, hb, hr⟩ := hrel
    by_cases hlt : k < len
    · obtain ⟨b, off, rfl, h0, h1⟩ := (hq.keep hb) k hlt
      clear hq hb1 hr1
      obtain ⟨v0, e0⟩ := hr.there (k * 2) (by omega)
      obtain ⟨v1, e1⟩ := hr.there (k * 2 + 1) (by omega)
      have f0 := hr.free (k * 2)
      have f1 := hr.free (k * 2 + 1)
      go_wp2
      go_roundw
      case rel => exact ⟨k + 1, by omega, by go_num, (hb.setCell (Nat.le_refl _) _).setCell (Nat.le_refl _) _, (hr.step k hlt).congr (fun i _ h => by omega)⟩
      case measure => simp [intOf]; omega
    · go_wp2
      go_ret
      exact ⟨rfl, hr.isA (fun i hi => by omega), hb⟩
end Go.Proofs.Qxb6625442a
