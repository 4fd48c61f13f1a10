/-
  No cell of these rows narrows 'for every input' (looked for: loops, veiled, ifaces, maps, wideKeys, modest, calm, conditions, laid).
  DERIVED. THE GIVEN ROWS OF THIS SEAT. 3 by the template 'for every input the law returns true; each argument reads behind the call as it read before'; 0 by the template 'total and deterministic' (their statements: Qxb6615719aTotals.lean).
  GIVEN WITH THE SEED: the statements are not yours to turn. If you find one false, say at which input.
  Laid BY PROGRAM, IN A SANDBOX (cutbox-rows.mjs): the forced cells as the released guide's own fill.sh prints them over the translation e094b0ff29720972… (all of the seat's roots in one cut). By AI agents, Wed Nov 11 2026. No macro, syntax, notation, axiom, sorry.
-/
import Derived.Test.Qxb6615719aChecked
import GoSem.Claim
import GoSem.ClaimJoined
import GoSem.ClaimMapViews
import Derived.JoinedTies
import Derived.KernelRfl
namespace Go.Proofs.Qxb6615719a
/- THE CELL 'sum', in the pinned program and in every row, IS THE sha256 OF THE DUMP (.gsa) THAT Qxb6615719aProg.lean LOADS. Nothing in Lean hashes anything: it is a label: what it is worth is what the hold of that sum in a sandbox is worth. -/
noncomputable def Try.pinned : Pinned := { name := "qxb6615719a", sum := "e094b0ff29720972bdf227680664e6bbc4ef4a094543c2cfb17747def3b8e0ec", checked := Try.checked }
namespace Rows
def none {H : Type} : Left H := { results := [], args := [] }

/-- 'zzlaws_internal_parallel_b1.FnSharedTelescopesAcrossAnyCut': WHATEVER THE INPUT: true; the input reads as it did. -/
def fnSharedTelescopesAcrossAnyCutSpec : ChangeSpec := { name := "fnSharedTelescopesAcrossAnyCut", fn := fun _ => fun
  | [d1, d2, d3, d4, d5, d6] => { results := [.lit (.bool true)], args := [d1, d2, d3, d4, d5, d6] }
  | _ => none }
def fnSharedTelescopesAcrossAnyCutRow : OpenClaim := { program := "qxb6615719a", sum := "e094b0ff29720972bdf227680664e6bbc4ef4a094543c2cfb17747def3b8e0ec", func := "example.com/dokimi/dokimi/zzlaws_internal_parallel_b1.FnSharedTelescopesAcrossAnyCut", spec := "fnSharedTelescopesAcrossAnyCut", apart := false }
def FnSharedTelescopesAcrossAnyCutSaid : Prop := fnSharedTelescopesAcrossAnyCutRow.holds Try.pinned (OpenSpec.ofChange fnSharedTelescopesAcrossAnyCutSpec)

/-- ITS FALSE NEIGHBOUR: 'it returns false'. Refute it at one input. -/
def fnSharedTelescopesAcrossAnyCutWrong : ChangeSpec := { name := "fnSharedTelescopesAcrossAnyCut", fn := fun _ => fun
  | [d1, d2, d3, d4, d5, d6] => { results := [.lit (.bool false)], args := [d1, d2, d3, d4, d5, d6] }
  | _ => none }
def FnSharedTelescopesAcrossAnyCutWrongFalsely : Prop := fnSharedTelescopesAcrossAnyCutRow.holds Try.pinned (OpenSpec.ofChange fnSharedTelescopesAcrossAnyCutWrong)

/-- 'zzlaws_internal_parallel_b1.FnFirstShareIsCeilingAndGrowsByOnePerRound': WHATEVER THE INPUT: true; the input reads as it did. -/
def fnFirstShareIsCeilingAndGrowsByOnePerRoundSpec : ChangeSpec := { name := "fnFirstShareIsCeilingAndGrowsByOnePerRound", fn := fun _ => fun
  | [d1, d2] => { results := [.lit (.bool true)], args := [d1, d2] }
  | _ => none }
def fnFirstShareIsCeilingAndGrowsByOnePerRoundRow : OpenClaim := { program := "qxb6615719a", sum := "e094b0ff29720972bdf227680664e6bbc4ef4a094543c2cfb17747def3b8e0ec", func := "example.com/dokimi/dokimi/zzlaws_internal_parallel_b1.FnFirstShareIsCeilingAndGrowsByOnePerRound", spec := "fnFirstShareIsCeilingAndGrowsByOnePerRound", apart := false }
def FnFirstShareIsCeilingAndGrowsByOnePerRoundSaid : Prop := fnFirstShareIsCeilingAndGrowsByOnePerRoundRow.holds Try.pinned (OpenSpec.ofChange fnFirstShareIsCeilingAndGrowsByOnePerRoundSpec)

/-- ITS FALSE NEIGHBOUR: 'it returns false'. Refute it at one input. -/
def fnFirstShareIsCeilingAndGrowsByOnePerRoundWrong : ChangeSpec := { name := "fnFirstShareIsCeilingAndGrowsByOnePerRound", fn := fun _ => fun
  | [d1, d2] => { results := [.lit (.bool false)], args := [d1, d2] }
  | _ => none }
def FnFirstShareIsCeilingAndGrowsByOnePerRoundWrongFalsely : Prop := fnFirstShareIsCeilingAndGrowsByOnePerRoundRow.holds Try.pinned (OpenSpec.ofChange fnFirstShareIsCeilingAndGrowsByOnePerRoundWrong)

/-- 'zzlaws_internal_parallel_b1.FnFirstShareOfSharedSpecsCoversThem': WHATEVER THE INPUT: true; the input reads as it did. -/
def fnFirstShareOfSharedSpecsCoversThemSpec : ChangeSpec := { name := "fnFirstShareOfSharedSpecsCoversThem", fn := fun _ => fun
  | [d1, d2, d3, d4] => { results := [.lit (.bool true)], args := [d1, d2, d3, d4] }
  | _ => none }
def fnFirstShareOfSharedSpecsCoversThemRow : OpenClaim := { program := "qxb6615719a", sum := "e094b0ff29720972bdf227680664e6bbc4ef4a094543c2cfb17747def3b8e0ec", func := "example.com/dokimi/dokimi/zzlaws_internal_parallel_b1.FnFirstShareOfSharedSpecsCoversThem", spec := "fnFirstShareOfSharedSpecsCoversThem", apart := false }
def FnFirstShareOfSharedSpecsCoversThemSaid : Prop := fnFirstShareOfSharedSpecsCoversThemRow.holds Try.pinned (OpenSpec.ofChange fnFirstShareOfSharedSpecsCoversThemSpec)

/-- ITS FALSE NEIGHBOUR: 'it returns false'. Refute it at one input. -/
def fnFirstShareOfSharedSpecsCoversThemWrong : ChangeSpec := { name := "fnFirstShareOfSharedSpecsCoversThem", fn := fun _ => fun
  | [d1, d2, d3, d4] => { results := [.lit (.bool false)], args := [d1, d2, d3, d4] }
  | _ => none }
def FnFirstShareOfSharedSpecsCoversThemWrongFalsely : Prop := fnFirstShareOfSharedSpecsCoversThemRow.holds Try.pinned (OpenSpec.ofChange fnFirstShareOfSharedSpecsCoversThemWrong)

end Rows
end Go.Proofs.Qxb6615719a
