/-
  Seat b6625442a: the overflows as a list; ZZcheckOverflowPlain; sameOverflowB1.
-/
import Derived.Test.Qxb6625442aOver
import Derived.WalkSmall
namespace Go.Proofs.Qxb6625442a
open Go.RowKit

/-- An overflow. -/
structure Ov where
  ln : Int
  ty : ByteArray
  cp : Int
def ovOf (g : Nat → Al) (lg : Nat) (x : Qt) : Ov := ⟨lineI g x.ty lg, x.ty, x.cp⟩
def Ov.cells (o : Ov) : List Value := [.int .i64 o.ln, .string o.ty, .int .i64 o.cp]
/-- The overflows of the first k quotas. -/
def ovs (q : Nat → Qt) (g : Nat → Al) (lg : Nat) : Nat → List Ov
  | 0 => []
  | k + 1 => ovs q g lg k ++ if 9007199254740991 < (q k).cp then [ovOf g lg (q k)] else []
def Ov.none : Ov := ⟨0, ByteArray.empty, 0⟩

theorem ovs_len (q : Nat → Qt) (g : Nat → Al) (lg k : Nat) : (ovs q g lg k).length = cnt q k := by
  induction k with
  | zero => rfl
  | succ k ih => unfold ovs cnt; rw [List.length_append, ih]; split <;> rfl
theorem ovl_eq (q : Nat → Qt) (g : Nat → Al) (lg k : Nat) : ovl q g lg k = (ovs q g lg k).flatMap Ov.cells := by
  induction k with
  | zero => rfl
  | succ k ih =>
    unfold ovl ovs
    rw [List.flatMap_append, ih]
    split
    · simp [ovCells, ovOf, Ov.cells]
    · simp
theorem flat_at (l : List Ov) (i j : Nat) (hi : i < l.length) (hj : j < 3) : (l.flatMap Ov.cells)[i * 3 + j]? = (l.getD i Ov.none).cells[j]? := by
  induction l generalizing i with
  | nil => simp at hi
  | cons x l ih =>
    rw [List.flatMap_cons]
    have hx : x.cells.length = 3 := rfl
    cases i with
    | zero => rw [List.getElem?_append_left (by omega)]; simp
    | succ i =>
      rw [List.getElem?_append_right (by omega), show (i + 1) * 3 + j - x.cells.length = i * 3 + j by omega, ih i (by simpa using hi)]
      simp
theorem cnt_mono (q : Nat → Qt) (i n : Nat) (h : i ≤ n) : cnt q i ≤ cnt q n := by
  induction n with
  | zero => obtain rfl : i = 0 := by omega
            exact Nat.le_refl _
  | succ n ih =>
    by_cases e : i ≤ n
    · have := ih e
      have h2 : cnt q (n + 1) = cnt q n + if 9007199254740991 < (q n).cp then 1 else 0 := rfl
      omega
    · obtain rfl : i = n + 1 := by omega
      exact Nat.le_refl _
theorem cnt_lt (q : Nat → Qt) (i n : Nat) (h : i < n) (ho : 9007199254740991 < (q i).cp) : cnt q i < cnt q n := by
  have := cnt_mono q (i + 1) n h
  rw [cnt_hit q i ho] at this
  omega
theorem getD_left (a b : List Ov) (i : Nat) (h : i < a.length) : (a ++ b).getD i Ov.none = a.getD i Ov.none := by
  simp [List.getD, List.getElem?_append_left h]
theorem getD_right (a b : List Ov) (i : Nat) (h : a.length ≤ i) : (a ++ b).getD i Ov.none = b.getD (i - a.length) Ov.none := by
  simp [List.getD, List.getElem?_append_right h]
theorem ovs_at (q : Nat → Qt) (g : Nat → Al) (lg i n : Nat) (h : i < n) (ho : 9007199254740991 < (q i).cp) : (ovs q g lg n).getD (cnt q i) Ov.none = ovOf g lg (q i) := by
  induction n with
  | zero => omega
  | succ n ih =>
    unfold ovs
    by_cases e : i < n
    · rw [getD_left _ _ _ (by rw [ovs_len]; exact cnt_lt q i n e ho)]
      exact ih e
    · obtain rfl : i = n := by omega
      rw [getD_right _ _ _ (by rw [ovs_len]; exact Nat.le_refl _), if_pos ho, ovs_len]
      simp

/-- The slice at a, of n elements, reads as the overflows o 0 .. o (n-1). -/
def IsO (w : World) (a : Option Addr) (n : Nat) (o : Nat → Ov) : Prop :=
  ∀ i, i < n → ∃ b off, a = some ⟨b, off, none⟩ ∧ w.cell? ⟨b, off + i * 3, none⟩ = some (.int .i64 (o i).ln) ∧ w.cell? ⟨b, off + i * 3 + 1, none⟩ = some (.string (o i).ty) ∧ w.cell? ⟨b, off + i * 3 + 2, none⟩ = some (.int .i64 (o i).cp)
theorem IsO.keep {w w' : World} {a : Option Addr} {len : Nat} {q : Nat → Ov} (hq : IsO w a len q) (h : Below w.heap.size w w') : IsO w' a len q := by
  intro i hi
  obtain ⟨b, off, e, h0, h1, h2⟩ := hq i hi
  exact ⟨b, off, e, cell_keep h h0, cell_keep h h1, cell_keep h h2⟩
/-- The i-th overflow of the first k quotas. -/
def ovAt (q : Nat → Qt) (g : Nat → Al) (lg k i : Nat) : Ov := (ovs q g lg k).getD i Ov.none
theorem isO_of_own {w : World} {base : Nat} {b : Nat} {cp : Nat} (q : Nat → Qt) (g : Nat → Al) (lg k : Nat) (h : w.ownsRow base 37 3 (.slice (some ⟨b, 0, none⟩) (cnt q k) cp) (cnt q k) (ovl q g lg k)) :
    IsO w (some ⟨b, 0, none⟩) (cnt q k) (ovAt q g lg k) := by
  intro i hi
  have hl := ovs_len q g lg k
  refine ⟨b, 0, rfl, ?_, ?_, ?_⟩
  · rw [Nat.zero_add, h.cellAt _ (by omega), ovl_eq, ← Nat.add_zero (i * 3), flat_at _ i 0 (by omega) (by omega)]; rfl
  · rw [Nat.zero_add, h.cellAt _ (by omega), ovl_eq, flat_at _ i 1 (by omega) (by omega)]; rfl
  · rw [Nat.zero_add, h.cellAt _ (by omega), ovl_eq, flat_at _ i 2 (by omega) (by omega)]; rfl

/-- What ZZcheckOverflowPlain leaves. -/
def Pln (w : World) (n : Nat) (o : Nat → Ov) (e : Ending) (w' : World) : Prop :=
  ∃ ao cp, e = .returned (.tuple #[.bool (decide (0 < n)), .slice ao n cp]) ∧ IsO w' ao n o ∧ Below w.heap.size w w'
theorem ret_two {a b : Bool} {v : Value} (h : a = b) : Ending.returned (.tuple #[.bool a, v]) = .returned (.tuple #[.bool b, v]) := by rw [h]

theorem assert47 (p : Nat) (w : World) : (Instr.typeAssert (.iface 47 (.pointer (some ⟨p, 0, none⟩))) 45 47 true).run Try.prog w = .ok (.tuple #[.pointer (some ⟨p, 0, none⟩), .bool true]) w := by kernel_rfl

set_option maxHeartbeats 1600000 in
theorem plain_any (a : Option Addr) (len cap : Nat) (q : Nat → Qt) (ag : Option Addr) (lg cg : Nat) (g : Nat → Al) (w : World) (hl : len ≤ 1048576) (hlg : lg ≤ 1048576) (hq : IsQ w a len q) (hg : IsA w ag lg g) :
    Calls Try.prog 9 #[.slice a len cap, .slice ag lg cg] w (Pln w (cnt q len) (ovAt q g lg len)) := by
  have hta := assert47
  go_enter Try.func9, Try.ntmps9
  go_wp2_with fail
  refine (check_any a len cap q ag lg cg g _ hl hlg hq hg).mono ?_
  rintro e w1 ⟨hb1, h | h⟩
  · obtain ⟨hz, rfl⟩ := h
    have HZ : Hid (cnt q len = 0) := hz
    clear hz
    go_wp2
    go_ret2
    refine ⟨none, 0, ?_, fun i hi => by rw [HZ.out] at hi; omega, hb1⟩
    rw [HZ.out]; rfl
  · obtain ⟨hz, p, v, rfl, hp, hown⟩ := h
    obtain ⟨gg, cap', rfl, -, -⟩ := hown.form hz
    have hd0 : decide (0 < cnt q len) = true := by simpa using hz
    have HD : Hid (decide (0 < cnt q len) = true) := hd0
    clear hd0
    have hO := isO_of_own q g lg len hown
    clear hown
    go_wp2
    go_quiet (fail)
    go_wp2
    go_ret2
    have hdr : Below w1.heap.size w1 (w1.drewN nq) := below_drewN (Below.refl _ _) nq
    exact ⟨_, _, ret_two HD.out.symm, hO.keep hdr, hb1.trans (hdr.mono hb1.size)⟩

set_option maxHeartbeats 1600000 in
/-- sameOverflowB1 of an overflow and itself. -/
theorem same_any (o : Ov) (w : World) :
    Calls Try.prog 13 #[.agg #[.int .i64 o.ln, .string o.ty, .int .i64 o.cp], .agg #[.int .i64 o.ln, .string o.ty, .int .i64 o.cp]] w fun e w' => e = .returned (.bool true) ∧ Below w.heap.size w w' := by
  go_enter Try.func13, Try.ntmps13
  go_wp2
  go_ret
  exact ⟨rfl, ((Below.refl _ _).alloc (Nat.le_refl _) _).alloc (by simp) _⟩
end Go.Proofs.Qxb6625442a
