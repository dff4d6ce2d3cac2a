/-
  No cell of these rows narrows 'for every input' (looked for: loops, veiled, ifaces, maps, wideKeys, modest, calm, conditions, laid).
  DERIVED. THE GIVEN ROWS OF THIS SEAT. 3 by the template 'for every input the law returns true; each argument reads behind the call as it read before'; 0 by the template 'total and deterministic' (their statements: Qxb6606430aTotals.lean).
  GIVEN WITH THE SEED: the statements are not yours to turn. If you find one false, say at which input.
  Laid BY PROGRAM, IN A SANDBOX (cutbox-rows.mjs): the forced cells as the released guide's own fill.sh prints them over the translation d3050382eae526a1… (all of the seat's roots in one cut). By AI agents, Wed Nov 11 2026. No macro, syntax, notation, axiom, sorry.
-/
import Derived.Test.Qxb6606430aChecked
import GoSem.Claim
import GoSem.ClaimJoined
import GoSem.ClaimMapViews
import Derived.JoinedTies
import Derived.KernelRfl
namespace Go.Proofs.Qxb6606430a
/- THE CELL 'sum', in the pinned program and in every row, IS THE sha256 OF THE DUMP (.gsa) THAT Qxb6606430aProg.lean LOADS. Nothing in Lean hashes anything: it is a label: what it is worth is what the hold of that sum in a sandbox is worth. -/
noncomputable def Try.pinned : Pinned := { name := "qxb6606430a", sum := "d3050382eae526a18539ef30f6ede04d42748f0e88ff6f034b5e952218530ffb", checked := Try.checked }
namespace Rows
def none {H : Type} : Left H := { results := [], args := [] }

/-- 'zzlaws_pkg_schedule_b1.FnCurrentVersionsAfterSplicesAfterTwice': WHATEVER THE INPUT: true; the input reads as it did. -/
def fnCurrentVersionsAfterSplicesAfterTwiceSpec : ChangeSpec := { name := "fnCurrentVersionsAfterSplicesAfterTwice", fn := fun _ => fun
  | [d] => { results := [.lit (.bool true)], args := [d] }
  | _ => none }
def fnCurrentVersionsAfterSplicesAfterTwiceRow : OpenClaim := { program := "qxb6606430a", sum := "d3050382eae526a18539ef30f6ede04d42748f0e88ff6f034b5e952218530ffb", func := "example.com/tenorline/tenorline/zzlaws_pkg_schedule_b1.FnCurrentVersionsAfterSplicesAfterTwice", spec := "fnCurrentVersionsAfterSplicesAfterTwice", apart := false }
def FnCurrentVersionsAfterSplicesAfterTwiceSaid : Prop := fnCurrentVersionsAfterSplicesAfterTwiceRow.holds Try.pinned (OpenSpec.ofChange fnCurrentVersionsAfterSplicesAfterTwiceSpec)

/-- ITS FALSE NEIGHBOUR: 'it returns false'. Refute it at one input. -/
def fnCurrentVersionsAfterSplicesAfterTwiceWrong : ChangeSpec := { name := "fnCurrentVersionsAfterSplicesAfterTwice", fn := fun _ => fun
  | [d] => { results := [.lit (.bool false)], args := [d] }
  | _ => none }
def FnCurrentVersionsAfterSplicesAfterTwiceWrongFalsely : Prop := fnCurrentVersionsAfterSplicesAfterTwiceRow.holds Try.pinned (OpenSpec.ofChange fnCurrentVersionsAfterSplicesAfterTwiceWrong)

/-- 'zzlaws_pkg_schedule_b1.FnCurrentVersionsAfterBoundsBothSidesOfTheAntiJoin': WHATEVER THE INPUT: true; the input reads as it did. -/
def fnCurrentVersionsAfterBoundsBothSidesOfTheAntiJoinSpec : ChangeSpec := { name := "fnCurrentVersionsAfterBoundsBothSidesOfTheAntiJoin", fn := fun _ => fun
  | [d] => { results := [.lit (.bool true)], args := [d] }
  | _ => none }
def fnCurrentVersionsAfterBoundsBothSidesOfTheAntiJoinRow : OpenClaim := { program := "qxb6606430a", sum := "d3050382eae526a18539ef30f6ede04d42748f0e88ff6f034b5e952218530ffb", func := "example.com/tenorline/tenorline/zzlaws_pkg_schedule_b1.FnCurrentVersionsAfterBoundsBothSidesOfTheAntiJoin", spec := "fnCurrentVersionsAfterBoundsBothSidesOfTheAntiJoin", apart := false }
def FnCurrentVersionsAfterBoundsBothSidesOfTheAntiJoinSaid : Prop := fnCurrentVersionsAfterBoundsBothSidesOfTheAntiJoinRow.holds Try.pinned (OpenSpec.ofChange fnCurrentVersionsAfterBoundsBothSidesOfTheAntiJoinSpec)

/-- ITS FALSE NEIGHBOUR: 'it returns false'. Refute it at one input. -/
def fnCurrentVersionsAfterBoundsBothSidesOfTheAntiJoinWrong : ChangeSpec := { name := "fnCurrentVersionsAfterBoundsBothSidesOfTheAntiJoin", fn := fun _ => fun
  | [d] => { results := [.lit (.bool false)], args := [d] }
  | _ => none }
def FnCurrentVersionsAfterBoundsBothSidesOfTheAntiJoinWrongFalsely : Prop := fnCurrentVersionsAfterBoundsBothSidesOfTheAntiJoinRow.holds Try.pinned (OpenSpec.ofChange fnCurrentVersionsAfterBoundsBothSidesOfTheAntiJoinWrong)

/-- 'zzlaws_pkg_schedule_b1.FnCurrentVersionsAfterIsOneBalancedSubquery': WHATEVER THE INPUT: true; the input reads as it did. -/
def fnCurrentVersionsAfterIsOneBalancedSubquerySpec : ChangeSpec := { name := "fnCurrentVersionsAfterIsOneBalancedSubquery", fn := fun _ => fun
  | [d] => { results := [.lit (.bool true)], args := [d] }
  | _ => none }
def fnCurrentVersionsAfterIsOneBalancedSubqueryRow : OpenClaim := { program := "qxb6606430a", sum := "d3050382eae526a18539ef30f6ede04d42748f0e88ff6f034b5e952218530ffb", func := "example.com/tenorline/tenorline/zzlaws_pkg_schedule_b1.FnCurrentVersionsAfterIsOneBalancedSubquery", spec := "fnCurrentVersionsAfterIsOneBalancedSubquery", apart := false }
def FnCurrentVersionsAfterIsOneBalancedSubquerySaid : Prop := fnCurrentVersionsAfterIsOneBalancedSubqueryRow.holds Try.pinned (OpenSpec.ofChange fnCurrentVersionsAfterIsOneBalancedSubquerySpec)

/-- ITS FALSE NEIGHBOUR: 'it returns false'. Refute it at one input. -/
def fnCurrentVersionsAfterIsOneBalancedSubqueryWrong : ChangeSpec := { name := "fnCurrentVersionsAfterIsOneBalancedSubquery", fn := fun _ => fun
  | [d] => { results := [.lit (.bool false)], args := [d] }
  | _ => none }
def FnCurrentVersionsAfterIsOneBalancedSubqueryWrongFalsely : Prop := fnCurrentVersionsAfterIsOneBalancedSubqueryRow.holds Try.pinned (OpenSpec.ofChange fnCurrentVersionsAfterIsOneBalancedSubqueryWrong)

end Rows
end Go.Proofs.Qxb6606430a
