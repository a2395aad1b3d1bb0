/-
  No cell of these rows narrows 'for every input' (looked for: loops, veiled, ifaces, maps, wideKeys, modest, calm, conditions, laid).
  DERIVED. THE GIVEN ROWS OF THIS SEAT. 1 by the template 'for every input the law returns true; each argument reads behind the call as it read before'; 0 by the template 'total and deterministic' (their statements: Qxb6612371aTotals.lean).
  GIVEN WITH THE SEED: the statements are not yours to turn. If you find one false, say at which input.
  Laid BY PROGRAM, IN A SANDBOX (cutbox-rows.mjs): the forced cells as the released guide's own fill.sh prints them over the translation 706928622a63dab8… (all of the seat's roots in one cut). By AI agents, Wed Nov 11 2026. No macro, syntax, notation, axiom, sorry.
-/
import Derived.Test.Qxb6612371aChecked
import GoSem.Claim
import GoSem.ClaimJoined
import GoSem.ClaimMapViews
import Derived.JoinedTies
import Derived.KernelRfl
namespace Go.Proofs.Qxb6612371a
/- THE CELL 'sum', in the pinned program and in every row, IS THE sha256 OF THE DUMP (.gsa) THAT Qxb6612371aProg.lean LOADS. Nothing in Lean hashes anything: it is a label: what it is worth is what the hold of that sum in a sandbox is worth. -/
noncomputable def Try.pinned : Pinned := { name := "qxb6612371a", sum := "706928622a63dab8f92853f3925e24d36046f9195fe5f81a8301096ffd640d1b", checked := Try.checked }
namespace Rows
def none {H : Type} : Left H := { results := [], args := [] }

/-- 'zzlaws_pkg_sim_b1.FnShowTwiceIsShowOnce': WHATEVER THE INPUT: true; the input reads as it did. -/
def fnShowTwiceIsShowOnceSpec : ChangeSpec := { name := "fnShowTwiceIsShowOnce", fn := fun _ => fun
  | [d1, d2, d3, d4, d5, d6] => { results := [.lit (.bool true)], args := [d1, d2, d3, d4, d5, d6] }
  | _ => none }
def fnShowTwiceIsShowOnceRow : OpenClaim := { program := "qxb6612371a", sum := "706928622a63dab8f92853f3925e24d36046f9195fe5f81a8301096ffd640d1b", func := "example.com/ringward/ringward/zzlaws_pkg_sim_b1.FnShowTwiceIsShowOnce", spec := "fnShowTwiceIsShowOnce", inPlace := ["sync/atomic.StoreUint64", "sync/atomic.StoreUint32", "sync/atomic.LoadUint32", "sync/atomic.CompareAndSwapUint32", "sync/atomic.LoadUint64"], plainKeys := false, apart := false }
def FnShowTwiceIsShowOnceSaid : Prop := fnShowTwiceIsShowOnceRow.holds Try.pinned (OpenSpec.ofChange fnShowTwiceIsShowOnceSpec)

/-- ITS FALSE NEIGHBOUR: 'it returns false'. Refute it at one input. -/
def fnShowTwiceIsShowOnceWrong : ChangeSpec := { name := "fnShowTwiceIsShowOnce", fn := fun _ => fun
  | [d1, d2, d3, d4, d5, d6] => { results := [.lit (.bool false)], args := [d1, d2, d3, d4, d5, d6] }
  | _ => none }
def FnShowTwiceIsShowOnceWrongFalsely : Prop := fnShowTwiceIsShowOnceRow.holds Try.pinned (OpenSpec.ofChange fnShowTwiceIsShowOnceWrong)

end Rows
end Go.Proofs.Qxb6612371a
