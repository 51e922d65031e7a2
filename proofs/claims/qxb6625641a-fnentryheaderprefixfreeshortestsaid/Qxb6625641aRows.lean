/-
  No cell of these rows narrows 'for every input' (looked for: loops, veiled, ifaces, maps, wideKeys, modest, calm, conditions, laid).
  DERIVED. THE GIVEN ROWS OF THIS SEAT. 2 by the template 'for every input the law returns true; each argument reads behind the call as it read before'; 0 by the template 'total and deterministic' (their statements: Qxb6625641aTotals.lean).
  GIVEN WITH THE SEED: the statements are not yours to turn. If you find one false, say at which input.
  Laid BY PROGRAM, IN A SANDBOX (cutbox-rows.mjs): the forced cells as the released guide's own fill.sh prints them over the translation 35593b53e06c7fdd… (all of the seat's roots in one cut). By AI agents, Wed Nov 11 2026. No macro, syntax, notation, axiom, sorry.
-/
import Derived.Test.Qxb6625641aChecked
import GoSem.Claim
import GoSem.ClaimJoined
import GoSem.ClaimMapViews
import Derived.JoinedTies
import Derived.KernelRfl
namespace Go.Proofs.Qxb6625641a
/- THE CELL 'sum', in the pinned program and in every row, IS THE sha256 OF THE DUMP (.gsa) THAT Qxb6625641aProg.lean LOADS. Nothing in Lean hashes anything: it is a label: what it is worth is what the hold of that sum in a sandbox is worth. -/
noncomputable def Try.pinned : Pinned := { name := "qxb6625641a", sum := "35593b53e06c7fdd7119349f7e3d179d720160a7bc4d081a30ade8cd33170e5c", checked := Try.checked }
namespace Rows
def none {H : Type} : Left H := { results := [], args := [] }

/-- 'zzlaws_internal_pack_b1.FnEntryHeaderDecodesBack': WHATEVER THE INPUT: true; the input reads as it did. -/
def fnEntryHeaderDecodesBackSpec : ChangeSpec := { name := "fnEntryHeaderDecodesBack", fn := fun _ => fun
  | [d1, d2, d3] => { results := [.lit (.bool true)], args := [d1, d2, d3] }
  | _ => none }
def fnEntryHeaderDecodesBackRow : OpenClaim := { program := "qxb6625641a", sum := "35593b53e06c7fdd7119349f7e3d179d720160a7bc4d081a30ade8cd33170e5c", func := "example.com/tideline/tideline/zzlaws_internal_pack_b1.FnEntryHeaderDecodesBack", spec := "fnEntryHeaderDecodesBack", apart := false }
def FnEntryHeaderDecodesBackSaid : Prop := fnEntryHeaderDecodesBackRow.holds Try.pinned (OpenSpec.ofChange fnEntryHeaderDecodesBackSpec)

/-- ITS FALSE NEIGHBOUR: 'it returns false'. Refute it at one input. -/
def fnEntryHeaderDecodesBackWrong : ChangeSpec := { name := "fnEntryHeaderDecodesBack", fn := fun _ => fun
  | [d1, d2, d3] => { results := [.lit (.bool false)], args := [d1, d2, d3] }
  | _ => none }
def FnEntryHeaderDecodesBackWrongFalsely : Prop := fnEntryHeaderDecodesBackRow.holds Try.pinned (OpenSpec.ofChange fnEntryHeaderDecodesBackWrong)

/-- 'zzlaws_internal_pack_b1.FnEntryHeaderPrefixFreeShortest': WHATEVER THE INPUT: true; the input reads as it did. -/
def fnEntryHeaderPrefixFreeShortestSpec : ChangeSpec := { name := "fnEntryHeaderPrefixFreeShortest", fn := fun _ => fun
  | [d1, d2, d3, d4] => { results := [.lit (.bool true)], args := [d1, d2, d3, d4] }
  | _ => none }
def fnEntryHeaderPrefixFreeShortestRow : OpenClaim := { program := "qxb6625641a", sum := "35593b53e06c7fdd7119349f7e3d179d720160a7bc4d081a30ade8cd33170e5c", func := "example.com/tideline/tideline/zzlaws_internal_pack_b1.FnEntryHeaderPrefixFreeShortest", spec := "fnEntryHeaderPrefixFreeShortest", apart := false }
def FnEntryHeaderPrefixFreeShortestSaid : Prop := fnEntryHeaderPrefixFreeShortestRow.holds Try.pinned (OpenSpec.ofChange fnEntryHeaderPrefixFreeShortestSpec)

/-- ITS FALSE NEIGHBOUR: 'it returns false'. Refute it at one input. -/
def fnEntryHeaderPrefixFreeShortestWrong : ChangeSpec := { name := "fnEntryHeaderPrefixFreeShortest", fn := fun _ => fun
  | [d1, d2, d3, d4] => { results := [.lit (.bool false)], args := [d1, d2, d3, d4] }
  | _ => none }
def FnEntryHeaderPrefixFreeShortestWrongFalsely : Prop := fnEntryHeaderPrefixFreeShortestRow.holds Try.pinned (OpenSpec.ofChange fnEntryHeaderPrefixFreeShortestWrong)

end Rows
end Go.Proofs.Qxb6625641a
