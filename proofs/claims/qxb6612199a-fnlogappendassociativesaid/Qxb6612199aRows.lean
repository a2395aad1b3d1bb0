/-
  No cell of these rows narrows 'for every input' (looked for: loops, veiled, ifaces, maps, wideKeys, modest, calm, conditions, laid).
  DERIVED. THE GIVEN ROWS OF THIS SEAT. 3 by the template 'for every input the law returns true; each argument reads behind the call as it read before'; 0 by the template 'total and deterministic' (their statements: Qxb6612199aTotals.lean).
  GIVEN WITH THE SEED: the statements are not yours to turn. If you find one false, say at which input.
  Laid BY PROGRAM, IN A SANDBOX (cutbox-rows.mjs): the forced cells as the released guide's own fill.sh prints them over the translation 43d9e0704f07da39… (all of the seat's roots in one cut). By AI agents, Wed Nov 11 2026. No macro, syntax, notation, axiom, sorry.
-/
import Derived.Test.Qxb6612199aChecked
import GoSem.Claim
import GoSem.ClaimJoined
import GoSem.ClaimMapViews
import Derived.JoinedTies
import Derived.KernelRfl
namespace Go.Proofs.Qxb6612199a
/- THE CELL 'sum', in the pinned program and in every row, IS THE sha256 OF THE DUMP (.gsa) THAT Qxb6612199aProg.lean LOADS. Nothing in Lean hashes anything: it is a label: what it is worth is what the hold of that sum in a sandbox is worth. -/
noncomputable def Try.pinned : Pinned := { name := "qxb6612199a", sum := "43d9e0704f07da3923dc24798a5c2d76df362b54bd878b282a0c9bf99b3aa8bd", checked := Try.checked }
namespace Rows
def none {H : Type} : Left H := { results := [], args := [] }

/-- 'zzlaws_internal_clock_b1.FnLogAppendExact': WHATEVER THE INPUT: true; the input reads as it did. -/
def fnLogAppendExactSpec : ChangeSpec := { name := "fnLogAppendExact", fn := fun _ => fun
  | [d1, d2] => { results := [.lit (.bool true)], args := [d1, d2] }
  | _ => none }
def fnLogAppendExactRow : OpenClaim := { program := "qxb6612199a", sum := "43d9e0704f07da3923dc24798a5c2d76df362b54bd878b282a0c9bf99b3aa8bd", func := "example.com/quorumtick/quorumtick/zzlaws_internal_clock_b1.FnLogAppendExact", spec := "fnLogAppendExact", apart := false }
def FnLogAppendExactSaid : Prop := fnLogAppendExactRow.holds Try.pinned (OpenSpec.ofChange fnLogAppendExactSpec)

/-- ITS FALSE NEIGHBOUR: 'it returns false'. Refute it at one input. -/
def fnLogAppendExactWrong : ChangeSpec := { name := "fnLogAppendExact", fn := fun _ => fun
  | [d1, d2] => { results := [.lit (.bool false)], args := [d1, d2] }
  | _ => none }
def FnLogAppendExactWrongFalsely : Prop := fnLogAppendExactRow.holds Try.pinned (OpenSpec.ofChange fnLogAppendExactWrong)

/-- 'zzlaws_internal_clock_b1.FnLogAppendAssociative': WHATEVER THE INPUT: true; the input reads as it did. -/
def fnLogAppendAssociativeSpec : ChangeSpec := { name := "fnLogAppendAssociative", fn := fun _ => fun
  | [d1, d2, d3] => { results := [.lit (.bool true)], args := [d1, d2, d3] }
  | _ => none }
def fnLogAppendAssociativeRow : OpenClaim := { program := "qxb6612199a", sum := "43d9e0704f07da3923dc24798a5c2d76df362b54bd878b282a0c9bf99b3aa8bd", func := "example.com/quorumtick/quorumtick/zzlaws_internal_clock_b1.FnLogAppendAssociative", spec := "fnLogAppendAssociative", apart := false }
def FnLogAppendAssociativeSaid : Prop := fnLogAppendAssociativeRow.holds Try.pinned (OpenSpec.ofChange fnLogAppendAssociativeSpec)

/-- ITS FALSE NEIGHBOUR: 'it returns false'. Refute it at one input. -/
def fnLogAppendAssociativeWrong : ChangeSpec := { name := "fnLogAppendAssociative", fn := fun _ => fun
  | [d1, d2, d3] => { results := [.lit (.bool false)], args := [d1, d2, d3] }
  | _ => none }
def FnLogAppendAssociativeWrongFalsely : Prop := fnLogAppendAssociativeRow.holds Try.pinned (OpenSpec.ofChange fnLogAppendAssociativeWrong)

/-- 'zzlaws_internal_clock_b1.FnSetAddMembership': WHATEVER THE INPUT: true; the input reads as it did. -/
def fnSetAddMembershipSpec : ChangeSpec := { name := "fnSetAddMembership", fn := fun _ => fun
  | [d1, d2, d3] => { results := [.lit (.bool true)], args := [d1, d2, d3] }
  | _ => none }
def fnSetAddMembershipRow : OpenClaim := { program := "qxb6612199a", sum := "43d9e0704f07da3923dc24798a5c2d76df362b54bd878b282a0c9bf99b3aa8bd", func := "example.com/quorumtick/quorumtick/zzlaws_internal_clock_b1.FnSetAddMembership", spec := "fnSetAddMembership", apart := false }
def FnSetAddMembershipSaid : Prop := fnSetAddMembershipRow.holds Try.pinned (OpenSpec.ofChange fnSetAddMembershipSpec)

/-- ITS FALSE NEIGHBOUR: 'it returns false'. Refute it at one input. -/
def fnSetAddMembershipWrong : ChangeSpec := { name := "fnSetAddMembership", fn := fun _ => fun
  | [d1, d2, d3] => { results := [.lit (.bool false)], args := [d1, d2, d3] }
  | _ => none }
def FnSetAddMembershipWrongFalsely : Prop := fnSetAddMembershipRow.holds Try.pinned (OpenSpec.ofChange fnSetAddMembershipWrong)

end Rows
end Go.Proofs.Qxb6612199a
