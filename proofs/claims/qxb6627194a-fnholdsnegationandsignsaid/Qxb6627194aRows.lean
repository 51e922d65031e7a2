/-
  No cell of these rows narrows 'for every input' (looked for: loops, veiled, ifaces, maps, wideKeys, modest, calm, conditions, laid).
  DERIVED. THE GIVEN ROWS OF THIS SEAT. 2 by the template 'for every input the law returns true; each argument reads behind the call as it read before'; 0 by the template 'total and deterministic' (their statements: Qxb6627194aTotals.lean).
  GIVEN WITH THE SEED: the statements are not yours to turn. If you find one false, say at which input.
  Laid BY PROGRAM, IN A SANDBOX (cutbox-rows.mjs): the forced cells as the released guide's own fill.sh prints them over the translation d62bc79cd9168eae… (all of the seat's roots in one cut). By AI agents, Wed Nov 11 2026. No macro, syntax, notation, axiom, sorry.
-/
import Derived.Test.Qxb6627194aChecked
import GoSem.Claim
import GoSem.ClaimJoined
import GoSem.ClaimMapViews
import Derived.JoinedTies
import Derived.KernelRfl
namespace Go.Proofs.Qxb6627194a
/- THE CELL 'sum', in the pinned program and in every row, IS THE sha256 OF THE DUMP (.gsa) THAT Qxb6627194aProg.lean LOADS. Nothing in Lean hashes anything: it is a label: what it is worth is what the hold of that sum in a sandbox is worth. -/
noncomputable def Try.pinned : Pinned := { name := "qxb6627194a", sum := "d62bc79cd9168eae36cdba5dc7cb85c36e28f7588bcb0e17f4a5f10f26a6572e", checked := Try.checked }
namespace Rows
def none {H : Type} : Left H := { results := [], args := [] }

/-- 'zzlaws_rules_b1.FnHoldsNegationAndSign': WHATEVER THE INPUT: true; the input reads as it did. -/
def fnHoldsNegationAndSignSpec : ChangeSpec := { name := "fnHoldsNegationAndSign", fn := fun _ => fun
  | [d1, d2] => { results := [.lit (.bool true)], args := [d1, d2] }
  | _ => none }
def fnHoldsNegationAndSignRow : OpenClaim := { program := "qxb6627194a", sum := "d62bc79cd9168eae36cdba5dc7cb85c36e28f7588bcb0e17f4a5f10f26a6572e", func := "example.com/access-by-rule/access-by-rule/zzlaws_rules_b1.FnHoldsNegationAndSign", spec := "fnHoldsNegationAndSign", apart := false }
def FnHoldsNegationAndSignSaid : Prop := fnHoldsNegationAndSignRow.holds Try.pinned (OpenSpec.ofChange fnHoldsNegationAndSignSpec)

/-- ITS FALSE NEIGHBOUR: 'it returns false'. Refute it at one input. -/
def fnHoldsNegationAndSignWrong : ChangeSpec := { name := "fnHoldsNegationAndSign", fn := fun _ => fun
  | [d1, d2] => { results := [.lit (.bool false)], args := [d1, d2] }
  | _ => none }
def FnHoldsNegationAndSignWrongFalsely : Prop := fnHoldsNegationAndSignRow.holds Try.pinned (OpenSpec.ofChange fnHoldsNegationAndSignWrong)

/-- 'zzlaws_rules_b1.FnHoldsConverseAndUnion': WHATEVER THE INPUT: true; the input reads as it did. -/
def fnHoldsConverseAndUnionSpec : ChangeSpec := { name := "fnHoldsConverseAndUnion", fn := fun _ => fun
  | [d1, d2] => { results := [.lit (.bool true)], args := [d1, d2] }
  | _ => none }
def fnHoldsConverseAndUnionRow : OpenClaim := { program := "qxb6627194a", sum := "d62bc79cd9168eae36cdba5dc7cb85c36e28f7588bcb0e17f4a5f10f26a6572e", func := "example.com/access-by-rule/access-by-rule/zzlaws_rules_b1.FnHoldsConverseAndUnion", spec := "fnHoldsConverseAndUnion", apart := false }
def FnHoldsConverseAndUnionSaid : Prop := fnHoldsConverseAndUnionRow.holds Try.pinned (OpenSpec.ofChange fnHoldsConverseAndUnionSpec)

/-- ITS FALSE NEIGHBOUR: 'it returns false'. Refute it at one input. -/
def fnHoldsConverseAndUnionWrong : ChangeSpec := { name := "fnHoldsConverseAndUnion", fn := fun _ => fun
  | [d1, d2] => { results := [.lit (.bool false)], args := [d1, d2] }
  | _ => none }
def FnHoldsConverseAndUnionWrongFalsely : Prop := fnHoldsConverseAndUnionRow.holds Try.pinned (OpenSpec.ofChange fnHoldsConverseAndUnionWrong)

end Rows
end Go.Proofs.Qxb6627194a
