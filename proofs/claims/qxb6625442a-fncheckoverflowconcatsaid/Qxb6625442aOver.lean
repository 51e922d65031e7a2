/-
  Seat b6625442a: checkOverflow and ZZcheckOverflowPlain.
-/
import Derived.Test.Qxb6625442aReads
import Derived.Test.Qxb6625442aRowsQ
import Derived.WalkSpells
import Derived.Laws.Pointers
import Derived.Deep.RegionHeld3
import Derived.Deep.AppendLies
import Derived.Deep.QuietTactic
import Derived.BigQuiet
namespace Go.Proofs.Qxb6625442a
open Go.RowKit

/-- One overflow's three cells. -/
def ovCells (g : Nat → Al) (lg : Nat) (x : Qt) : List Value := [.int .i64 (lineI g x.ty lg), .string x.ty, .int .i64 x.cp]
/-- The overflows of the first k quotas, cell by cell. -/
def ovl (q : Nat → Qt) (g : Nat → Al) (lg : Nat) : Nat → List Value
  | 0 => []
  | k + 1 => ovl q g lg k ++ if 9007199254740991 < (q k).cp then ovCells g lg (q k) else []
theorem ovl_hit (q : Nat → Qt) (g : Nat → Al) (lg k : Nat) (h : 9007199254740991 < (q k).cp) : ovl q g lg (k + 1) = ovl q g lg k ++ ovCells g lg (q k) := by simp [ovl, h]
theorem ovl_miss (q : Nat → Qt) (g : Nat → Al) (lg k : Nat) (h : (q k).cp ≤ 9007199254740991) : ovl q g lg (k + 1) = ovl q g lg k := by
  have : ¬ 9007199254740991 < (q k).cp := by omega
  simp [ovl, this]

theorem own_keep {w w' : World} {base : Nat} {e : TypeId} {size : Nat} {v : Value} {n : Nat} {xs : List Value} (h : w.ownsRow base e size v n xs) (hb : Below w.heap.size w w') : w'.ownsRow base e size v n xs := by
  refine ⟨h.1, ?_⟩
  rcases h.2 with h2 | ⟨g, cap, cur, hv, hg, hh, r⟩
  · exact .inl h2
  · refine .inr ⟨g, cap, cur, hv, hg, ?_, r⟩
    rw [hb.block g (by
      by_cases e : g < w.heap.size
      · exact e
      · rw [Array.getElem?_eq_none (by omega)] at hh; simp at hh)]
    exact hh

theorem own_ne {w : World} {base : Nat} {e : TypeId} {size : Nat} {v : Value} {n : Nat} {xs : List Value} (h : w.ownsRow base e size v n xs) : some w.heap.size ≠ v.ownBlock := by
  rcases h.2 with ⟨rfl, -⟩ | ⟨g, cap, cur, rfl, hg, hh, r⟩
  · simp [Value.ownBlock]
  · intro e
    simp [Value.ownBlock] at e
    subst e
    simp at hh
theorem own_base {w : World} {base : Nat} {e : TypeId} {size : Nat} {v : Value} {n : Nat} {xs : List Value} (h : w.ownsRow base e size v n xs) : ∀ k, v.ownBlock = some k → base ≤ k := by
  rcases h.2 with ⟨rfl, -⟩ | ⟨g, cap, cur, rfl, hg, hh, r⟩
  · simp [Value.ownBlock]
  · intro k e
    simp [Value.ownBlock] at e
    omega

theorem info37 : (Try.prog.info? 37).map (fun i => (i.zero, i.size, i.bytes)) = some (some (.agg #[.int .i64 0, .string ByteArray.empty, .int .i64 0]), 3, 32) := by kernel_rfl

/-- What checkOverflow leaves: n overflows, their cells xs. -/
def Chk (w : World) (n : Nat) (xs : List Value) (e : Ending) (w' : World) : Prop :=
  Below w.heap.size w w' ∧ ((n = 0 ∧ e = .returned .nilIface) ∨ (0 < n ∧ ∃ p v, e = .returned (.iface 47 (.pointer (some ⟨p, 0, none⟩))) ∧ w'.cell? ⟨p, 0, none⟩ = some v ∧ w'.ownsRow w.heap.size 37 3 v n xs))
theorem oneCells (g : Nat → Al) (lg : Nat) (x : Qt) : ∀ u ∈ ovCells g lg x, u.oneCell' = true := by
  intro u hu
  simp [ovCells] at hu
  rcases hu with rfl | rfl | rfl <;> rfl

set_option maxRecDepth 100000 in
set_option maxHeartbeats 3200000 in
theorem check_any (a : Option Addr) (len cap : Nat) (q : Nat → Qt) (ag : Option Addr) (lg cg : Nat) (g : Nat → Al) (w : World) (hl : len ≤ 1048576) (hlg : lg ≤ 1048576) (hq : IsQ w a len q) (hg : IsA w ag lg g) :
    Calls Try.prog 14 #[.slice a len cap, .slice ag lg cg] w (Chk w (cnt q len) (ovl q g lg len)) := by
  obtain ⟨i0, hi0, hz0, hz1, hz2⟩ := info_parts info37
  have hmg : lg ≤ maxLen := by unfold maxLen; omega
  go_enter Try.func14, Try.ntmps14
  go_wp2
  go_loopw [5, 10] (fun v i wr => ∃ k : Nat, k ≤ len ∧ i = .int .i64 k ∧ wr.ownsRow w.heap.size 37 3 v (cnt q k) (ovl q g lg k) ∧ Below w.heap.size w wr ∧ (cnt q k = 0 → v = .slice none 0 0)) (fun _ i _ => len - (intOf i).toNat)
  case atStart => exact ⟨0, Nat.zero_le _, rfl, World.ownsRow_nil _ _ _ _, Below.refl _ _, fun _ => rfl⟩
  case round =>
    obtain ⟨k, hk, rfl, hown, hb, hnil⟩ := hrel
    have hc := cnt_le q k
    by_cases hlt : k < len
    · obtain ⟨b, off, rfl, h0, h1, h2, h3⟩ := (hq.keep hb) k hlt
      have hg' := hg.keep hb
      clear hq hg
      by_cases hm : 9007199254740991 < (q k).cp
      · go_wp2_with fail
        have hne := own_ne hown
        go_region_held3 (fun w' => w'.cell? ⟨wr.heap.size, 0, none⟩ = some (.string (q k).ty) ∧ w'.cell? ⟨wr.heap.size, 1, none⟩ = some (.int .i64 (q k).cp))
          (first
            | go_keep
            | (go_split_ands
               refine ⟨?_, ?_⟩
               · (rw [hb2.cell (by simp)]; simp)
               · (rw [hb2.cell (by simp)]; simp))
            | (go_split_ands
               refine ⟨?_, ?_⟩
               · (rw [hgrow.cell_far _ (by have h2 := hb2.size; simp at h2 ⊢; omega) hne]; rw [World.cell?_alloc_past _ _ _ (by have h2 := hb2.size; simp at h2 ⊢; omega)]; rw [hb2.cell (by simp)]; simp)
               · (rw [hgrow.cell_far _ (by have h2 := hb2.size; simp at h2 ⊢; omega) hne]; rw [World.cell?_alloc_past _ _ _ (by have h2 := hb2.size; simp at h2 ⊢; omega)]; rw [hb2.cell (by simp)]; simp)))
          (first
            | (refine step_append_lies _ (by rfl) _ _ _ (by rfl) w.heap.size 37 i0 _ 3 32 Try.underlying30 hi0 hz0 hz1 hz2 rfl (by omega) u5 (cnt q k) (ovl q g lg k) (by rfl) ((own_keep ((hown.alloc _).drew) hb2).alloc _)
                ⟨w2.heap.size, 0, none⟩ 1 1 (ovCells g lg (q k)) (by rfl) (by rfl) (World.news_of_block (cs := #[.int .i64 (lineI g (q k).ty lg), .string (q k).ty, .int .i64 (q k).cp]) (t := 37) (fr := (0, 0)) (heap_alloc_new w2 _)) (oneCells _ _ _) (by omega) (by unfold maxLen; omega) (by omega) (by have h1 := hb.size; have h2 := hb2.size; simp at h2 ⊢; omega) (w2.heap.size + 1) (by simp) ?_; intro gg cap' w3 hown3 hgrow hat hlt3)
            | (go_at_call 15; refine (line_any ag lg cg g (q k).ty _ hmg ?_).mono ?_; (first | exact hg'.keep ((Below.refl _ _).alloc (Nat.le_refl _) _) | exact hg'.keep (((Below.refl _ _).alloc (Nat.le_refl _) _).drew)); rintro e w2 ⟨rfl, hb2⟩))
        have hB : Below w.heap.size w w3 := by
          have h1 := hb.size
          have h2 := hb2.size
          simp at h2
          exact (((hb.alloc hb.size _).drew.trans (hb2.mono (by simp; omega))).alloc (by omega) _).grown hgrow (by simp; omega) (own_base hown)
        have HC : Hid (cnt q (k + 1) = cnt q k + 1) := cnt_hit q k hm
        have HO : Hid (ovl q g lg (k + 1) = ovl q g lg k ++ ovCells g lg (q k)) := ovl_hit q g lg k hm
        clear hgrow hb2 hat
        go_wp2
        go_roundw
        case rel => exact ⟨k + 1, by omega, by go_num, by rw [HC.out, HO.out]; exact hown3, hB, fun h => by rw [HC.out] at h; omega⟩
        case measure => simp [intOf]; omega
      · go_wp2
        go_roundw
        case rel => exact ⟨k + 1, by omega, by go_num, by rw [cnt_miss q k (by omega), ovl_miss q g lg k (by omega)]; exact hown.alloc _, hb.alloc hb.size _, fun h => hnil (by rw [cnt_miss q k (by omega)] at h; exact h)⟩
        case measure => simp [intOf]; omega
    · obtain rfl : k = len := by omega
      have hnn : ∀ (w : World) (a : Option Addr) (n c : Nat), (binOp .neq 30 (.slice a n c) (.slice none 0 0)).run Try.prog w = .ok (.bool (!a.isNone)) w := fun w a n c => run_neq_slice_nil_any w 30 37 a n c 0 0 Try.underlying30
      by_cases hz : cnt q k = 0
      · obtain rfl := hnil hz
        have HZ : Hid (cnt q k = 0) := hz
        clear hz hnil hown hq hg
        go_wp2
        go_ret
        exact ⟨hb, .inl ⟨HZ.out, rfl⟩⟩
      · obtain ⟨gg, cap', rfl, hbg, hltg⟩ := hown.form (by omega)
        clear hnil hq hg
        go_wp2
        go_ret
        exact ⟨hb.alloc hb.size _, .inr ⟨by omega, _, _, rfl, by simp, hown.alloc _⟩⟩
end Go.Proofs.Qxb6625442a
