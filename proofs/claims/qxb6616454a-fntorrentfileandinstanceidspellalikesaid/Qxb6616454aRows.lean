/-
  No cell of these rows narrows 'for every input' (looked for: loops, veiled, ifaces, maps, wideKeys, modest, calm, conditions, laid).
  DERIVED. THE GIVEN ROWS OF THIS SEAT. 3 by the template 'for every input the law returns true; each argument reads behind the call as it read before'; 0 by the template 'total and deterministic' (their statements: Qxb6616454aTotals.lean).
  GIVEN WITH THE SEED: the statements are not yours to turn. If you find one false, say at which input.
  Laid BY PROGRAM, IN A SANDBOX (cutbox-rows.mjs): the forced cells as the released guide's own fill.sh prints them over the translation 215cf33bde0d478b… (all of the seat's roots in one cut). By AI agents, Wed Nov 11 2026. No macro, syntax, notation, axiom, sorry.
-/
import Derived.Test.Qxb6616454aChecked
import GoSem.Claim
import GoSem.ClaimJoined
import GoSem.ClaimMapViews
import Derived.JoinedTies
import Derived.KernelRfl
namespace Go.Proofs.Qxb6616454a
/- THE CELL 'sum', in the pinned program and in every row, IS THE sha256 OF THE DUMP (.gsa) THAT Qxb6616454aProg.lean LOADS. Nothing in Lean hashes anything: it is a label: what it is worth is what the hold of that sum in a sandbox is worth. -/
noncomputable def Try.pinned : Pinned := { name := "qxb6616454a", sum := "215cf33bde0d478b5a34722ecebab9d6eff283bae5a15834cf29459f21d89f5c", checked := Try.checked }
namespace Rows
def none {H : Type} : Left H := { results := [], args := [] }

/-- 'zzlaws_registry_b1.FnTorrentFileSortsAsHashes': WHATEVER THE INPUT: true; the input reads as it did. -/
def fnTorrentFileSortsAsHashesSpec : ChangeSpec := { name := "fnTorrentFileSortsAsHashes", fn := fun _ => fun
  | [d1, d2] => { results := [.lit (.bool true)], args := [d1, d2] }
  | _ => none }
def fnTorrentFileSortsAsHashesRow : OpenClaim := { program := "qxb6616454a", sum := "215cf33bde0d478b5a34722ecebab9d6eff283bae5a15834cf29459f21d89f5c", func := "example.com/swarmtally/swarmtally/zzlaws_registry_b1.FnTorrentFileSortsAsHashes", spec := "fnTorrentFileSortsAsHashes", apart := false }
def FnTorrentFileSortsAsHashesSaid : Prop := fnTorrentFileSortsAsHashesRow.holds Try.pinned (OpenSpec.ofChange fnTorrentFileSortsAsHashesSpec)

/-- ITS FALSE NEIGHBOUR: 'it returns false'. Refute it at one input. -/
def fnTorrentFileSortsAsHashesWrong : ChangeSpec := { name := "fnTorrentFileSortsAsHashes", fn := fun _ => fun
  | [d1, d2] => { results := [.lit (.bool false)], args := [d1, d2] }
  | _ => none }
def FnTorrentFileSortsAsHashesWrongFalsely : Prop := fnTorrentFileSortsAsHashesRow.holds Try.pinned (OpenSpec.ofChange fnTorrentFileSortsAsHashesWrong)

/-- 'zzlaws_registry_b1.FnTorrentFileAndInstanceIDSpellAlike': WHATEVER THE INPUT: true; the input reads as it did. -/
def fnTorrentFileAndInstanceIDSpellAlikeSpec : ChangeSpec := { name := "fnTorrentFileAndInstanceIDSpellAlike", fn := fun _ => fun
  | [d1, d2] => { results := [.lit (.bool true)], args := [d1, d2] }
  | _ => none }
def fnTorrentFileAndInstanceIDSpellAlikeRow : OpenClaim := { program := "qxb6616454a", sum := "215cf33bde0d478b5a34722ecebab9d6eff283bae5a15834cf29459f21d89f5c", func := "example.com/swarmtally/swarmtally/zzlaws_registry_b1.FnTorrentFileAndInstanceIDSpellAlike", spec := "fnTorrentFileAndInstanceIDSpellAlike", apart := false }
def FnTorrentFileAndInstanceIDSpellAlikeSaid : Prop := fnTorrentFileAndInstanceIDSpellAlikeRow.holds Try.pinned (OpenSpec.ofChange fnTorrentFileAndInstanceIDSpellAlikeSpec)

/-- ITS FALSE NEIGHBOUR: 'it returns false'. Refute it at one input. -/
def fnTorrentFileAndInstanceIDSpellAlikeWrong : ChangeSpec := { name := "fnTorrentFileAndInstanceIDSpellAlike", fn := fun _ => fun
  | [d1, d2] => { results := [.lit (.bool false)], args := [d1, d2] }
  | _ => none }
def FnTorrentFileAndInstanceIDSpellAlikeWrongFalsely : Prop := fnTorrentFileAndInstanceIDSpellAlikeRow.holds Try.pinned (OpenSpec.ofChange fnTorrentFileAndInstanceIDSpellAlikeWrong)

/-- 'zzlaws_registry_b1.FnInstanceIDStringSortsAsIDs': WHATEVER THE INPUT: true; the input reads as it did. -/
def fnInstanceIDStringSortsAsIDsSpec : ChangeSpec := { name := "fnInstanceIDStringSortsAsIDs", fn := fun _ => fun
  | [d1, d2] => { results := [.lit (.bool true)], args := [d1, d2] }
  | _ => none }
def fnInstanceIDStringSortsAsIDsRow : OpenClaim := { program := "qxb6616454a", sum := "215cf33bde0d478b5a34722ecebab9d6eff283bae5a15834cf29459f21d89f5c", func := "example.com/swarmtally/swarmtally/zzlaws_registry_b1.FnInstanceIDStringSortsAsIDs", spec := "fnInstanceIDStringSortsAsIDs", apart := false }
def FnInstanceIDStringSortsAsIDsSaid : Prop := fnInstanceIDStringSortsAsIDsRow.holds Try.pinned (OpenSpec.ofChange fnInstanceIDStringSortsAsIDsSpec)

/-- ITS FALSE NEIGHBOUR: 'it returns false'. Refute it at one input. -/
def fnInstanceIDStringSortsAsIDsWrong : ChangeSpec := { name := "fnInstanceIDStringSortsAsIDs", fn := fun _ => fun
  | [d1, d2] => { results := [.lit (.bool false)], args := [d1, d2] }
  | _ => none }
def FnInstanceIDStringSortsAsIDsWrongFalsely : Prop := fnInstanceIDStringSortsAsIDsRow.holds Try.pinned (OpenSpec.ofChange fnInstanceIDStringSortsAsIDsWrong)

end Rows
end Go.Proofs.Qxb6616454a
