/-
  No cell of these rows narrows 'for every input' (looked for: loops, veiled, ifaces, maps, wideKeys, modest, calm, conditions, laid).
  DERIVED. THE GIVEN ROWS OF THIS SEAT. 2 by the template 'for every input the law returns true; each argument reads behind the call as it read before'; 0 by the template 'total and deterministic' (their statements: Qxb6612252aTotals.lean).
  GIVEN WITH THE SEED: the statements are not yours to turn. If you find one false, say at which input.
  Laid BY PROGRAM, IN A SANDBOX (cutbox-rows.mjs): the forced cells as the released guide's own fill.sh prints them over the translation 211f73864dd22bb0… (all of the seat's roots in one cut). By AI agents, Wed Nov 11 2026. No macro, syntax, notation, axiom, sorry.
-/
import Derived.Test.Qxb6612252aChecked
import GoSem.Claim
import GoSem.ClaimJoined
import GoSem.ClaimMapViews
import Derived.JoinedTies
import Derived.KernelRfl
namespace Go.Proofs.Qxb6612252a
/- THE CELL 'sum', in the pinned program and in every row, IS THE sha256 OF THE DUMP (.gsa) THAT Qxb6612252aProg.lean LOADS. Nothing in Lean hashes anything: it is a label: what it is worth is what the hold of that sum in a sandbox is worth. -/
noncomputable def Try.pinned : Pinned := { name := "qxb6612252a", sum := "211f73864dd22bb09b16fa33f3b832068a00322f9f6c8a3081885d568bc76ac7", checked := Try.checked }
namespace Rows
def none {H : Type} : Left H := { results := [], args := [] }

/-- 'zzlaws_root_b1.FnArgSizeArgvBlock': WHATEVER THE INPUT: true; the input reads as it did. -/
def fnArgSizeArgvBlockSpec : ChangeSpec := { name := "fnArgSizeArgvBlock", fn := fun _ => fun
  | [d] => { results := [.lit (.bool true)], args := [d] }
  | _ => none }
def fnArgSizeArgvBlockRow : OpenClaim := { program := "qxb6612252a", sum := "211f73864dd22bb09b16fa33f3b832068a00322f9f6c8a3081885d568bc76ac7", func := "example.com/overture/overture/zzlaws_root_b1.FnArgSizeArgvBlock", spec := "fnArgSizeArgvBlock", apart := false }
def FnArgSizeArgvBlockSaid : Prop := fnArgSizeArgvBlockRow.holds Try.pinned (OpenSpec.ofChange fnArgSizeArgvBlockSpec)

/-- ITS FALSE NEIGHBOUR: 'it returns false'. Refute it at one input. -/
def fnArgSizeArgvBlockWrong : ChangeSpec := { name := "fnArgSizeArgvBlock", fn := fun _ => fun
  | [d] => { results := [.lit (.bool false)], args := [d] }
  | _ => none }
def FnArgSizeArgvBlockWrongFalsely : Prop := fnArgSizeArgvBlockRow.holds Try.pinned (OpenSpec.ofChange fnArgSizeArgvBlockWrong)

/-- 'zzlaws_root_b1.FnArgSizeJoinSavesOverhead': WHATEVER THE INPUT: true; the input reads as it did. -/
def fnArgSizeJoinSavesOverheadSpec : ChangeSpec := { name := "fnArgSizeJoinSavesOverhead", fn := fun _ => fun
  | [d1, d2] => { results := [.lit (.bool true)], args := [d1, d2] }
  | _ => none }
def fnArgSizeJoinSavesOverheadRow : OpenClaim := { program := "qxb6612252a", sum := "211f73864dd22bb09b16fa33f3b832068a00322f9f6c8a3081885d568bc76ac7", func := "example.com/overture/overture/zzlaws_root_b1.FnArgSizeJoinSavesOverhead", spec := "fnArgSizeJoinSavesOverhead", apart := false }
def FnArgSizeJoinSavesOverheadSaid : Prop := fnArgSizeJoinSavesOverheadRow.holds Try.pinned (OpenSpec.ofChange fnArgSizeJoinSavesOverheadSpec)

/-- ITS FALSE NEIGHBOUR: 'it returns false'. Refute it at one input. -/
def fnArgSizeJoinSavesOverheadWrong : ChangeSpec := { name := "fnArgSizeJoinSavesOverhead", fn := fun _ => fun
  | [d1, d2] => { results := [.lit (.bool false)], args := [d1, d2] }
  | _ => none }
def FnArgSizeJoinSavesOverheadWrongFalsely : Prop := fnArgSizeJoinSavesOverheadRow.holds Try.pinned (OpenSpec.ofChange fnArgSizeJoinSavesOverheadWrong)

end Rows
end Go.Proofs.Qxb6612252a
