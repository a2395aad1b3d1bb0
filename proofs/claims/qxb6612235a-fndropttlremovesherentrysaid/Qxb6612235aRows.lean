/-
  No cell of these rows narrows 'for every input' (looked for: loops, veiled, ifaces, maps, wideKeys, modest, calm, conditions, laid).
  DERIVED. THE GIVEN ROWS OF THIS SEAT. 1 by the template 'for every input the law returns true; each argument reads behind the call as it read before'; 0 by the template 'total and deterministic' (their statements: Qxb6612235aTotals.lean).
  GIVEN WITH THE SEED: the statements are not yours to turn. If you find one false, say at which input.
  Laid BY PROGRAM, IN A SANDBOX (cutbox-rows.mjs): the forced cells as the released guide's own fill.sh prints them over the translation c22c494cfcbd4695… (all of the seat's roots in one cut). By AI agents, Wed Nov 11 2026. No macro, syntax, notation, axiom, sorry.
-/
import Derived.Test.Qxb6612235aChecked
import GoSem.Claim
import GoSem.ClaimJoined
import GoSem.ClaimMapViews
import Derived.JoinedTies
import Derived.KernelRfl
namespace Go.Proofs.Qxb6612235a
/- THE CELL 'sum', in the pinned program and in every row, IS THE sha256 OF THE DUMP (.gsa) THAT Qxb6612235aProg.lean LOADS. Nothing in Lean hashes anything: it is a label: what it is worth is what the hold of that sum in a sandbox is worth. -/
noncomputable def Try.pinned : Pinned := { name := "qxb6612235a", sum := "c22c494cfcbd4695808da969678e5eb6b51c18385e676c19e34cbb7b42ee3185", checked := Try.checked }
namespace Rows
def none {H : Type} : Left H := { results := [], args := [] }

/-- 'zzlaws_pkg_tree_b1.FnDropTTLRemovesHerEntry': WHATEVER THE INPUT: true; the input reads as it did. -/
def fnDropTTLRemovesHerEntrySpec : ChangeSpec := { name := "fnDropTTLRemovesHerEntry", fn := fun _ => fun
  | [d1, d2, d3] => { results := [.lit (.bool true)], args := [d1, d2, d3] }
  | _ => none }
def fnDropTTLRemovesHerEntryRow : OpenClaim := { program := "qxb6612235a", sum := "c22c494cfcbd4695808da969678e5eb6b51c18385e676c19e34cbb7b42ee3185", func := "example.com/concordat/concordat/zzlaws_pkg_tree_b1.FnDropTTLRemovesHerEntry", spec := "fnDropTTLRemovesHerEntry", unfollowed := true, recurses := true, apart := false }
def FnDropTTLRemovesHerEntrySaid : Prop := fnDropTTLRemovesHerEntryRow.holds Try.pinned (OpenSpec.ofChange fnDropTTLRemovesHerEntrySpec)

/-- ITS FALSE NEIGHBOUR: 'it returns false'. Refute it at one input. -/
def fnDropTTLRemovesHerEntryWrong : ChangeSpec := { name := "fnDropTTLRemovesHerEntry", fn := fun _ => fun
  | [d1, d2, d3] => { results := [.lit (.bool false)], args := [d1, d2, d3] }
  | _ => none }
def FnDropTTLRemovesHerEntryWrongFalsely : Prop := fnDropTTLRemovesHerEntryRow.holds Try.pinned (OpenSpec.ofChange fnDropTTLRemovesHerEntryWrong)

end Rows
end Go.Proofs.Qxb6612235a
