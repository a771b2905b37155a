/-
  No cell of these rows narrows 'for every input' (looked for: loops, veiled, ifaces, maps, wideKeys, modest, calm, conditions, laid).
  DERIVED. THE GIVEN ROWS OF THIS SEAT. 2 by the template 'for every input the law returns true; each argument reads behind the call as it read before'; 0 by the template 'total and deterministic' (their statements: Qxb6615138aTotals.lean).
  GIVEN WITH THE SEED: the statements are not yours to turn. If you find one false, say at which input.
  Laid BY PROGRAM, IN A SANDBOX (cutbox-rows.mjs): the forced cells as the released guide's own fill.sh prints them over the translation d8884df6545b5f15… (all of the seat's roots in one cut). By AI agents, Wed Nov 11 2026. No macro, syntax, notation, axiom, sorry.
-/
import Derived.Test.Qxb6615138aChecked
import GoSem.Claim
import GoSem.ClaimJoined
import GoSem.ClaimMapViews
import Derived.JoinedTies
import Derived.KernelRfl
namespace Go.Proofs.Qxb6615138a
/- THE CELL 'sum', in the pinned program and in every row, IS THE sha256 OF THE DUMP (.gsa) THAT Qxb6615138aProg.lean LOADS. Nothing in Lean hashes anything: it is a label: what it is worth is what the hold of that sum in a sandbox is worth. -/
noncomputable def Try.pinned : Pinned := { name := "qxb6615138a", sum := "d8884df6545b5f15c57a94c8455763f260e9aeeb0df9287e800575c6392020eb", checked := Try.checked }
namespace Rows
def none {H : Type} : Left H := { results := [], args := [] }

/-- 'zzlaws_batch_b1.FnCompareRoutesIsOrderOfEncodedPair': WHATEVER THE INPUT: true; the input reads as it did. -/
def fnCompareRoutesIsOrderOfEncodedPairSpec : ChangeSpec := { name := "fnCompareRoutesIsOrderOfEncodedPair", fn := fun _ => fun
  | [d1, d2, d3, d4] => { results := [.lit (.bool true)], args := [d1, d2, d3, d4] }
  | _ => none }
def fnCompareRoutesIsOrderOfEncodedPairRow : OpenClaim := { program := "qxb6615138a", sum := "d8884df6545b5f15c57a94c8455763f260e9aeeb0df9287e800575c6392020eb", func := "example.com/zhaomu/zhaomu/zzlaws_batch_b1.FnCompareRoutesIsOrderOfEncodedPair", spec := "fnCompareRoutesIsOrderOfEncodedPair", apart := false }
def FnCompareRoutesIsOrderOfEncodedPairSaid : Prop := fnCompareRoutesIsOrderOfEncodedPairRow.holds Try.pinned (OpenSpec.ofChange fnCompareRoutesIsOrderOfEncodedPairSpec)

/-- ITS FALSE NEIGHBOUR: 'it returns false'. Refute it at one input. -/
def fnCompareRoutesIsOrderOfEncodedPairWrong : ChangeSpec := { name := "fnCompareRoutesIsOrderOfEncodedPair", fn := fun _ => fun
  | [d1, d2, d3, d4] => { results := [.lit (.bool false)], args := [d1, d2, d3, d4] }
  | _ => none }
def FnCompareRoutesIsOrderOfEncodedPairWrongFalsely : Prop := fnCompareRoutesIsOrderOfEncodedPairRow.holds Try.pinned (OpenSpec.ofChange fnCompareRoutesIsOrderOfEncodedPairWrong)

/-- 'zzlaws_batch_b1.FnCompareRoutesIsTotalOrderRegistrarFirst': WHATEVER THE INPUT: true; the input reads as it did. -/
def fnCompareRoutesIsTotalOrderRegistrarFirstSpec : ChangeSpec := { name := "fnCompareRoutesIsTotalOrderRegistrarFirst", fn := fun _ => fun
  | [d1, d2, d3, d4, d5, d6] => { results := [.lit (.bool true)], args := [d1, d2, d3, d4, d5, d6] }
  | _ => none }
def fnCompareRoutesIsTotalOrderRegistrarFirstRow : OpenClaim := { program := "qxb6615138a", sum := "d8884df6545b5f15c57a94c8455763f260e9aeeb0df9287e800575c6392020eb", func := "example.com/zhaomu/zhaomu/zzlaws_batch_b1.FnCompareRoutesIsTotalOrderRegistrarFirst", spec := "fnCompareRoutesIsTotalOrderRegistrarFirst", apart := false }
def FnCompareRoutesIsTotalOrderRegistrarFirstSaid : Prop := fnCompareRoutesIsTotalOrderRegistrarFirstRow.holds Try.pinned (OpenSpec.ofChange fnCompareRoutesIsTotalOrderRegistrarFirstSpec)

/-- ITS FALSE NEIGHBOUR: 'it returns false'. Refute it at one input. -/
def fnCompareRoutesIsTotalOrderRegistrarFirstWrong : ChangeSpec := { name := "fnCompareRoutesIsTotalOrderRegistrarFirst", fn := fun _ => fun
  | [d1, d2, d3, d4, d5, d6] => { results := [.lit (.bool false)], args := [d1, d2, d3, d4, d5, d6] }
  | _ => none }
def FnCompareRoutesIsTotalOrderRegistrarFirstWrongFalsely : Prop := fnCompareRoutesIsTotalOrderRegistrarFirstRow.holds Try.pinned (OpenSpec.ofChange fnCompareRoutesIsTotalOrderRegistrarFirstWrong)

end Rows
end Go.Proofs.Qxb6615138a
