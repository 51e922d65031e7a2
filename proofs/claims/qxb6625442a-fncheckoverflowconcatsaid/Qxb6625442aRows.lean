/-
  No cell of these rows narrows 'for every input' (looked for: loops, veiled, ifaces, maps, wideKeys, modest, calm, conditions, laid).
  DERIVED. THE GIVEN ROWS OF THIS SEAT. 2 by the template 'for every input the law returns true; each argument reads behind the call as it read before'; 0 by the template 'total and deterministic' (their statements: Qxb6625442aTotals.lean).
  GIVEN WITH THE SEED: the statements are not yours to turn. If you find one false, say at which input.
  Laid BY PROGRAM, IN A SANDBOX (cutbox-rows.mjs): the forced cells as the released guide's own fill.sh prints them over the translation d252908b463e14cd… (all of the seat's roots in one cut). By AI agents, Wed Nov 11 2026. No macro, syntax, notation, axiom, sorry.
-/
import Derived.Test.Qxb6625442aChecked
import GoSem.Claim
import GoSem.ClaimJoined
import GoSem.ClaimMapViews
import Derived.JoinedTies
import Derived.KernelRfl
namespace Go.Proofs.Qxb6625442a
/- THE CELL 'sum', in the pinned program and in every row, IS THE sha256 OF THE DUMP (.gsa) THAT Qxb6625442aProg.lean LOADS. Nothing in Lean hashes anything: it is a label: what it is worth is what the hold of that sum in a sandbox is worth. -/
noncomputable def Try.pinned : Pinned := { name := "qxb6625442a", sum := "d252908b463e14cdcd06a35a317d5a01795137fa554cf89756e019888c993861", checked := Try.checked }
namespace Rows
def none {H : Type} : Left H := { results := [], args := [] }

/-- 'zzlaws_ledger_b1.FnCheckOverflowExact': WHATEVER THE INPUT: true; the input reads as it did. -/
def fnCheckOverflowExactSpec : ChangeSpec := { name := "fnCheckOverflowExact", fn := fun _ => fun
  | [d1, d2] => { results := [.lit (.bool true)], args := [d1, d2] }
  | _ => none }
def fnCheckOverflowExactRow : OpenClaim := { program := "qxb6625442a", sum := "d252908b463e14cdcd06a35a317d5a01795137fa554cf89756e019888c993861", func := "example.com/floq/floq/zzlaws_ledger_b1.FnCheckOverflowExact", spec := "fnCheckOverflowExact", apart := false }
def FnCheckOverflowExactSaid : Prop := fnCheckOverflowExactRow.holds Try.pinned (OpenSpec.ofChange fnCheckOverflowExactSpec)

/-- ITS FALSE NEIGHBOUR: 'it returns false'. Refute it at one input. -/
def fnCheckOverflowExactWrong : ChangeSpec := { name := "fnCheckOverflowExact", fn := fun _ => fun
  | [d1, d2] => { results := [.lit (.bool false)], args := [d1, d2] }
  | _ => none }
def FnCheckOverflowExactWrongFalsely : Prop := fnCheckOverflowExactRow.holds Try.pinned (OpenSpec.ofChange fnCheckOverflowExactWrong)

/-- 'zzlaws_ledger_b1.FnCheckOverflowConcat': WHATEVER THE INPUT: true; the input reads as it did. -/
def fnCheckOverflowConcatSpec : ChangeSpec := { name := "fnCheckOverflowConcat", fn := fun _ => fun
  | [d1, d2, d3] => { results := [.lit (.bool true)], args := [d1, d2, d3] }
  | _ => none }
def fnCheckOverflowConcatRow : OpenClaim := { program := "qxb6625442a", sum := "d252908b463e14cdcd06a35a317d5a01795137fa554cf89756e019888c993861", func := "example.com/floq/floq/zzlaws_ledger_b1.FnCheckOverflowConcat", spec := "fnCheckOverflowConcat", apart := false }
def FnCheckOverflowConcatSaid : Prop := fnCheckOverflowConcatRow.holds Try.pinned (OpenSpec.ofChange fnCheckOverflowConcatSpec)

/-- ITS FALSE NEIGHBOUR: 'it returns false'. Refute it at one input. -/
def fnCheckOverflowConcatWrong : ChangeSpec := { name := "fnCheckOverflowConcat", fn := fun _ => fun
  | [d1, d2, d3] => { results := [.lit (.bool false)], args := [d1, d2, d3] }
  | _ => none }
def FnCheckOverflowConcatWrongFalsely : Prop := fnCheckOverflowConcatRow.holds Try.pinned (OpenSpec.ofChange fnCheckOverflowConcatWrong)

end Rows
end Go.Proofs.Qxb6625442a
