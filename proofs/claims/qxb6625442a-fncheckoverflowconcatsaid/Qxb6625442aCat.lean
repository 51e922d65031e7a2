/-
  Seat b6625442a: two lists of quotas joined: the plain laws.
-/
import Derived.Test.Qxb6625442aPlain
namespace Go.Proofs.Qxb6625442a
open Go.RowKit

/-- a's la quotas, then b's. -/
def cat (qa qb : Nat → Qt) (la i : Nat) : Qt := if i < la then qa i else qb (i - la)
theorem cat_left (qa qb : Nat → Qt) (la i : Nat) (h : i < la) : cat qa qb la i = qa i := by simp [cat, h]
theorem cat_right (qa qb : Nat → Qt) (la i : Nat) : cat qa qb la (la + i) = qb i := by
  unfold cat
  rw [if_neg (by omega), show la + i - la = i by omega]
theorem cnt_congr (q q' : Nat → Qt) (n : Nat) (h : ∀ i, i < n → q i = q' i) : cnt q n = cnt q' n := by
  induction n with
  | zero => rfl
  | succ n ih => unfold cnt; rw [ih fun i hi => h i (by omega), h n (by omega)]
theorem ovs_congr (q q' : Nat → Qt) (g : Nat → Al) (lg n : Nat) (h : ∀ i, i < n → q i = q' i) : ovs q g lg n = ovs q' g lg n := by
  induction n with
  | zero => rfl
  | succ n ih => unfold ovs; rw [ih fun i hi => h i (by omega), h n (by omega)]
theorem cnt_succ (q : Nat → Qt) (k : Nat) : cnt q (k + 1) = cnt q k + if 9007199254740991 < (q k).cp then 1 else 0 := rfl
theorem ovs_succ (q : Nat → Qt) (g : Nat → Al) (lg k : Nat) : ovs q g lg (k + 1) = ovs q g lg k ++ if 9007199254740991 < (q k).cp then [ovOf g lg (q k)] else [] := rfl
theorem cnt_cat (qa qb : Nat → Qt) (la lb : Nat) : cnt (cat qa qb la) (la + lb) = cnt qa la + cnt qb lb := by
  induction lb with
  | zero => exact cnt_congr _ _ _ fun i hi => cat_left qa qb la i hi
  | succ n ih => rw [show la + (n + 1) = (la + n) + 1 by omega, cnt_succ, cnt_succ, ih, cat_right]; omega
theorem ovs_cat (qa qb : Nat → Qt) (g : Nat → Al) (lg la lb : Nat) : ovs (cat qa qb la) g lg (la + lb) = ovs qa g lg la ++ ovs qb g lg lb := by
  induction lb with
  | zero => rw [show ovs qb g lg 0 = [] from rfl, List.append_nil]; exact ovs_congr _ _ _ _ _ fun i hi => cat_left qa qb la i hi
  | succ n ih => rw [show la + (n + 1) = (la + n) + 1 by omega, ovs_succ, ovs_succ, ih, cat_right, List.append_assoc]
theorem ovAt_left (qa qb : Nat → Qt) (g : Nat → Al) (lg la lb i : Nat) (h : i < cnt qa la) : ovAt (cat qa qb la) g lg (la + lb) i = ovAt qa g lg la i := by
  unfold ovAt
  rw [ovs_cat, getD_left _ _ _ (by rw [ovs_len]; exact h)]
theorem ovAt_right (qa qb : Nat → Qt) (g : Nat → Al) (lg la lb i : Nat) : ovAt (cat qa qb la) g lg (la + lb) (cnt qa la + i) = ovAt qb g lg lb i := by
  unfold ovAt
  rw [ovs_cat, getD_right _ _ _ (by rw [ovs_len]; omega), ovs_len, show cnt qa la + i - cnt qa la = i by omega]
theorem isQ_left {w : World} {aa : Option Addr} {la : Nat} {qa : Nat → Qt} (h : IsQ w aa la qa) (qb : Nat → Qt) : IsQ w aa la (cat qa qb la) := fun i hi => by
  rw [cat_left qa qb la i hi]; exact h i hi
theorem isQ_right {w : World} {ab : Option Addr} {lb : Nat} {qb : Nat → Qt} (h : IsQ w ab lb qb) (qa : Nat → Qt) (la : Nat) : IsQ w ab lb (fun j => cat qa qb la (la + j)) := fun i hi => by
  simp only [cat_right]; exact h i hi
end Go.Proofs.Qxb6625442a
