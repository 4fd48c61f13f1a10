/-
  No cell of these rows narrows 'for every input' (looked for: loops, veiled, ifaces, maps, wideKeys, modest, calm, conditions, laid).
  DERIVED. THE GIVEN ROWS OF THIS SEAT. 1 by the template 'for every input the law returns true; each argument reads behind the call as it read before'; 0 by the template 'total and deterministic' (their statements: Qxb6615722aTotals.lean).
  GIVEN WITH THE SEED: the statements are not yours to turn. If you find one false, say at which input.
  Laid BY PROGRAM, IN A SANDBOX (cutbox-rows.mjs): the forced cells as the released guide's own fill.sh prints them over the translation caf2b0f064d61b93… (all of the seat's roots in one cut). By AI agents, Wed Nov 11 2026. No macro, syntax, notation, axiom, sorry.
-/
import Derived.Test.Qxb6615722aChecked
import GoSem.Claim
import GoSem.ClaimJoined
import GoSem.ClaimMapViews
import Derived.JoinedTies
import Derived.KernelRfl
namespace Go.Proofs.Qxb6615722a
/- THE CELL 'sum', in the pinned program and in every row, IS THE sha256 OF THE DUMP (.gsa) THAT Qxb6615722aProg.lean LOADS. Nothing in Lean hashes anything: it is a label: what it is worth is what the hold of that sum in a sandbox is worth. -/
noncomputable def Try.pinned : Pinned := { name := "qxb6615722a", sum := "caf2b0f064d61b9386946be0efccfb1fafecf17893d8f2c7d0e162ee9df69dcd", checked := Try.checked }
namespace Rows
def none {H : Type} : Left H := { results := [], args := [] }

/-- 'zzlaws_pool_b1.FnAsWayRepeatedUnreachedChangeNothing': WHATEVER THE INPUT: true; the input reads as it did. -/
def fnAsWayRepeatedUnreachedChangeNothingSpec : ChangeSpec := { name := "fnAsWayRepeatedUnreachedChangeNothing", fn := fun _ => fun
  | [d1, d2, d3] => { results := [.lit (.bool true)], args := [d1, d2, d3] }
  | _ => none }
def fnAsWayRepeatedUnreachedChangeNothingRow : OpenClaim := { program := "qxb6615722a", sum := "caf2b0f064d61b9386946be0efccfb1fafecf17893d8f2c7d0e162ee9df69dcd", func := "example.com/idlewell/idlewell/zzlaws_pool_b1.FnAsWayRepeatedUnreachedChangeNothing", spec := "fnAsWayRepeatedUnreachedChangeNothing", unfollowed := true, recurses := true, apart := false }
def FnAsWayRepeatedUnreachedChangeNothingSaid : Prop := fnAsWayRepeatedUnreachedChangeNothingRow.holds Try.pinned (OpenSpec.ofChange fnAsWayRepeatedUnreachedChangeNothingSpec)

/-- ITS FALSE NEIGHBOUR: 'it returns false'. Refute it at one input. -/
def fnAsWayRepeatedUnreachedChangeNothingWrong : ChangeSpec := { name := "fnAsWayRepeatedUnreachedChangeNothing", fn := fun _ => fun
  | [d1, d2, d3] => { results := [.lit (.bool false)], args := [d1, d2, d3] }
  | _ => none }
def FnAsWayRepeatedUnreachedChangeNothingWrongFalsely : Prop := fnAsWayRepeatedUnreachedChangeNothingRow.holds Try.pinned (OpenSpec.ofChange fnAsWayRepeatedUnreachedChangeNothingWrong)

end Rows
end Go.Proofs.Qxb6615722a
