/-
  Seat b6625442a: how the arguments (slices of structs) are opened.
-/
import Derived.Test.Qxb6625442aBase
import Derived.ProofKit
import Derived.OpenShut
import Derived.Deep.Slices
namespace Go.Proofs.Qxb6625442a
open Go.ChangeShapes Go.WideShapes Go.RowKit Go.Deep

theorem cells35 : Try.prog.cellsOf 35 = 4 := by kernel_rfl
theorem cells42 : Try.prog.cellsOf 42 = 2 := by kernel_rfl
theorem cells9 : Try.prog.cellsOf 9 = 1 := by kernel_rfl
theorem cells2 : Try.prog.cellsOf 2 = 1 := by kernel_rfl

theorem four {α : Type} (l : List α) (h : l.length = 4) : ∃ a b c d, l = [a, b, c, d] := by
  match l, h with
  | [a, b, c, d], _ => exact ⟨a, b, c, d, rfl⟩
theorem two {α : Type} (l : List α) (h : l.length = 2) : ∃ a b, l = [a, b] := by
  match l, h with
  | [a, b], _ => exact ⟨a, b, rfl⟩

section
variable {H : Type} {enc : TypeId × Value → H} {w : World} {base : Nat} {spare : Nat → Bool} {held : Bool}

theorem open_q {fuel : Nat} {a : Option Addr} {len cap : Nat} {x : DataW H × List MemPlace} (h : DataW.trod enc Try.prog w base spare held fuel 22 [.slice a len cap] = some x) :
    len ≤ maxLen ∧ ∃ q, IsQ w a len q := by
  rcases open_slice Try.underlying22 h with ⟨h0, -⟩ | ⟨a', len', cap', m, n, D, Pl, hcs, hb, hl, hm, hmm, -, hx⟩
  · simp at h0
    obtain ⟨rfl, rfl, rfl⟩ := h0
    exact ⟨Nat.zero_le _, fun _ => ⟨ByteArray.empty, 0, 0, 0⟩, fun i hi => absurd hi (Nat.not_lt_zero _)⟩
  · simp at hcs
    obtain ⟨rfl, rfl, rfl⟩ := hcs
    have hlm : len ≤ m := by rw [hmm]; split <;> omega
    refine ⟨by omega, ?_⟩
    rcases Nat.eq_zero_or_pos len with hz | hpos
    · subst hz; exact ⟨fun _ => ⟨ByteArray.empty, 0, 0, 0⟩, fun i hi => absurd hi (Nat.not_lt_zero _)⟩
    obtain ⟨b, off, rfl⟩ : ∃ b off, a' = ⟨b, off, none⟩ := by
      obtain ⟨b, off, spot⟩ := a'
      obtain ⟨cs', h1, -⟩ := hx 0 (by omega)
      rw [cells35] at h1
      obtain ⟨_, hlen, hcell⟩ := World.cells?_some h1
      have k0 := hcell 0 (by omega)
      rw [List.getElem?_eq_getElem (by omega)] at k0
      have hspot : spot = none := by simpa [Addr.add] using World.cell?_spot k0
      subst hspot
      exact ⟨b, off, rfl⟩
    have each : ∀ i, i < len → ∃ r : Qt, ∃ b' off', (some ⟨b, off, none⟩ : Option Addr) = some ⟨b', off', none⟩ ∧ w.cell? ⟨b', off' + i * 4, none⟩ = some (.string r.ty) ∧ w.cell? ⟨b', off' + i * 4 + 1, none⟩ = some (.int .i64 r.cp) ∧
        w.cell? ⟨b', off' + i * 4 + 2, none⟩ = some (.int .i64 r.cm) ∧ w.cell? ⟨b', off' + i * 4 + 3, none⟩ = some (.int .i64 r.rs) := by
      intro i hi
      obtain ⟨cs', h1, h2⟩ := hx i (by omega)
      rw [cells35] at h1
      obtain ⟨_, hlen, hcell⟩ := World.cells?_some h1
      obtain ⟨xs, k, hk, hxy, _, hxl, hf⟩ := DataW.trod_struct Try.underlying35 h2
      obtain ⟨c0, c1, c2, c3, rfl⟩ := four cs' hlen
      obtain ⟨y0, y1, y2, y3, rfl⟩ := four xs hxl
      have g0 := hf 0 _ rfl
      have g1 := hf 1 _ rfl
      have g2 := hf 2 _ rfl
      have g3 := hf 3 _ rfl
      simp [cells9, cells2] at g0 g1 g2 g3
      obtain ⟨s0, e0, -, -⟩ := DataW.trod_string Try.underlying9 g0
      obtain ⟨n1, e1, -, -⟩ := DataW.trod_int Try.underlying2 g1
      obtain ⟨n2, e2, -, -⟩ := DataW.trod_int Try.underlying2 g2
      obtain ⟨n3, e3, -, -⟩ := DataW.trod_int Try.underlying2 g3
      simp at e0 e1 e2 e3
      subst e0 e1 e2 e3
      have k0 := hcell 0 (by omega)
      have k1 := hcell 1 (by omega)
      have k2 := hcell 2 (by omega)
      have k3 := hcell 3 (by omega)
      rw [add_add] at k0 k1 k2 k3
      exact ⟨⟨s0, n1, n2, n3⟩, b, off, rfl, by simpa [add_plain] using k0, by simpa [add_plain, Nat.add_assoc] using k1, by simpa [add_plain, Nat.add_assoc] using k2, by simpa [add_plain, Nat.add_assoc] using k3⟩
    have : Inhabited Qt := ⟨⟨ByteArray.empty, 0, 0, 0⟩⟩
    obtain ⟨q, hq⟩ := choose_lt each
    exact ⟨q, hq⟩

theorem open_a {fuel : Nat} {a : Option Addr} {len cap : Nat} {x : DataW H × List MemPlace} (h : DataW.trod enc Try.prog w base spare held fuel 23 [.slice a len cap] = some x) :
    len ≤ maxLen ∧ ∃ q, IsA w a len q := by
  rcases open_slice Try.underlying23 h with ⟨h0, -⟩ | ⟨a', len', cap', m, n, D, Pl, hcs, hb, hl, hm, hmm, -, hx⟩
  · simp at h0
    obtain ⟨rfl, rfl, rfl⟩ := h0
    exact ⟨Nat.zero_le _, fun _ => ⟨ByteArray.empty, 0⟩, fun i hi => absurd hi (Nat.not_lt_zero _)⟩
  · simp at hcs
    obtain ⟨rfl, rfl, rfl⟩ := hcs
    have hlm : len ≤ m := by rw [hmm]; split <;> omega
    refine ⟨by omega, ?_⟩
    rcases Nat.eq_zero_or_pos len with hz | hpos
    · subst hz; exact ⟨fun _ => ⟨ByteArray.empty, 0⟩, fun i hi => absurd hi (Nat.not_lt_zero _)⟩
    obtain ⟨b, off, rfl⟩ : ∃ b off, a' = ⟨b, off, none⟩ := by
      obtain ⟨b, off, spot⟩ := a'
      obtain ⟨cs', h1, -⟩ := hx 0 (by omega)
      rw [cells42] at h1
      obtain ⟨_, hlen, hcell⟩ := World.cells?_some h1
      have k0 := hcell 0 (by omega)
      rw [List.getElem?_eq_getElem (by omega)] at k0
      have hspot : spot = none := by simpa [Addr.add] using World.cell?_spot k0
      subst hspot
      exact ⟨b, off, rfl⟩
    have each : ∀ i, i < len → ∃ r : Al, ∃ b' off', (some ⟨b, off, none⟩ : Option Addr) = some ⟨b', off', none⟩ ∧ w.cell? ⟨b', off' + i * 2, none⟩ = some (.string r.ty) ∧ w.cell? ⟨b', off' + i * 2 + 1, none⟩ = some (.int .i64 r.am) := by
      intro i hi
      obtain ⟨cs', h1, h2⟩ := hx i (by omega)
      rw [cells42] at h1
      obtain ⟨_, hlen, hcell⟩ := World.cells?_some h1
      obtain ⟨xs, k, hk, hxy, _, hxl, hf⟩ := DataW.trod_struct Try.underlying42 h2
      obtain ⟨c0, c1, rfl⟩ := two cs' hlen
      obtain ⟨y0, y1, rfl⟩ := two xs hxl
      have g0 := hf 0 _ rfl
      have g1 := hf 1 _ rfl
      simp [cells9, cells2] at g0 g1
      obtain ⟨s0, e0, -, -⟩ := DataW.trod_string Try.underlying9 g0
      obtain ⟨n1, e1, -, -⟩ := DataW.trod_int Try.underlying2 g1
      simp at e0 e1
      subst e0 e1
      have k0 := hcell 0 (by omega)
      have k1 := hcell 1 (by omega)
      rw [add_add] at k0 k1
      exact ⟨⟨s0, n1⟩, b, off, rfl, by simpa [add_plain] using k0, by simpa [add_plain, Nat.add_assoc] using k1⟩
    have : Inhabited Al := ⟨⟨ByteArray.empty, 0⟩⟩
    obtain ⟨q, hq⟩ := choose_lt each
    exact ⟨q, hq⟩
end
end Go.Proofs.Qxb6625442a
