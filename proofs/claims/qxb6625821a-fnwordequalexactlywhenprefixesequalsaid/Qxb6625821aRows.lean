/-
  No cell of these rows narrows 'for every input' (looked for: loops, veiled, ifaces, maps, wideKeys, modest, calm, conditions, laid).
  DERIVED. THE GIVEN ROWS OF THIS SEAT. 2 by the template 'for every input the law returns true; each argument reads behind the call as it read before'; 0 by the template 'total and deterministic' (their statements: Qxb6625821aTotals.lean).
  GIVEN WITH THE SEED: the statements are not yours to turn. If you find one false, say at which input.
  Laid BY PROGRAM, IN A SANDBOX (cutbox-rows.mjs): the forced cells as the released guide's own fill.sh prints them over the translation dad84408e085c569… (all of the seat's roots in one cut). By AI agents, Wed Nov 11 2026. No macro, syntax, notation, axiom, sorry.
-/
import Derived.Test.Qxb6625821aChecked
import GoSem.Claim
import GoSem.ClaimJoined
import GoSem.ClaimMapViews
import Derived.JoinedTies
import Derived.KernelRfl
namespace Go.Proofs.Qxb6625821a
/- THE CELL 'sum', in the pinned program and in every row, IS THE sha256 OF THE DUMP (.gsa) THAT Qxb6625821aProg.lean LOADS. Nothing in Lean hashes anything: it is a label: what it is worth is what the hold of that sum in a sandbox is worth. -/
noncomputable def Try.pinned : Pinned := { name := "qxb6625821a", sum := "dad84408e085c5695472c1b3e9cec0fc007a830571d7d673750b03d8449a7aa4", checked := Try.checked }
namespace Rows
def none {H : Type} : Left H := { results := [], args := [] }

/-- 'zzlaws_internal_service_b1.FnWordReadsFirstEightBytesLittleEndian': WHATEVER THE INPUT: true; the input reads as it did. -/
def fnWordReadsFirstEightBytesLittleEndianSpec : ChangeSpec := { name := "fnWordReadsFirstEightBytesLittleEndian", fn := fun _ => fun
  | [d1, d2] => { results := [.lit (.bool true)], args := [d1, d2] }
  | _ => none }
def fnWordReadsFirstEightBytesLittleEndianRow : OpenClaim := { program := "qxb6625821a", sum := "dad84408e085c5695472c1b3e9cec0fc007a830571d7d673750b03d8449a7aa4", func := "example.com/admit/admit/zzlaws_internal_service_b1.FnWordReadsFirstEightBytesLittleEndian", spec := "fnWordReadsFirstEightBytesLittleEndian", apart := false }
def FnWordReadsFirstEightBytesLittleEndianSaid : Prop := fnWordReadsFirstEightBytesLittleEndianRow.holds Try.pinned (OpenSpec.ofChange fnWordReadsFirstEightBytesLittleEndianSpec)

/-- ITS FALSE NEIGHBOUR: 'it returns false'. Refute it at one input. -/
def fnWordReadsFirstEightBytesLittleEndianWrong : ChangeSpec := { name := "fnWordReadsFirstEightBytesLittleEndian", fn := fun _ => fun
  | [d1, d2] => { results := [.lit (.bool false)], args := [d1, d2] }
  | _ => none }
def FnWordReadsFirstEightBytesLittleEndianWrongFalsely : Prop := fnWordReadsFirstEightBytesLittleEndianRow.holds Try.pinned (OpenSpec.ofChange fnWordReadsFirstEightBytesLittleEndianWrong)

/-- 'zzlaws_internal_service_b1.FnWordEqualExactlyWhenPrefixesEqual': WHATEVER THE INPUT: true; the input reads as it did. -/
def fnWordEqualExactlyWhenPrefixesEqualSpec : ChangeSpec := { name := "fnWordEqualExactlyWhenPrefixesEqual", fn := fun _ => fun
  | [d1, d2] => { results := [.lit (.bool true)], args := [d1, d2] }
  | _ => none }
def fnWordEqualExactlyWhenPrefixesEqualRow : OpenClaim := { program := "qxb6625821a", sum := "dad84408e085c5695472c1b3e9cec0fc007a830571d7d673750b03d8449a7aa4", func := "example.com/admit/admit/zzlaws_internal_service_b1.FnWordEqualExactlyWhenPrefixesEqual", spec := "fnWordEqualExactlyWhenPrefixesEqual", apart := false }
def FnWordEqualExactlyWhenPrefixesEqualSaid : Prop := fnWordEqualExactlyWhenPrefixesEqualRow.holds Try.pinned (OpenSpec.ofChange fnWordEqualExactlyWhenPrefixesEqualSpec)

/-- ITS FALSE NEIGHBOUR: 'it returns false'. Refute it at one input. -/
def fnWordEqualExactlyWhenPrefixesEqualWrong : ChangeSpec := { name := "fnWordEqualExactlyWhenPrefixesEqual", fn := fun _ => fun
  | [d1, d2] => { results := [.lit (.bool false)], args := [d1, d2] }
  | _ => none }
def FnWordEqualExactlyWhenPrefixesEqualWrongFalsely : Prop := fnWordEqualExactlyWhenPrefixesEqualRow.holds Try.pinned (OpenSpec.ofChange fnWordEqualExactlyWhenPrefixesEqualWrong)

end Rows
end Go.Proofs.Qxb6625821a
