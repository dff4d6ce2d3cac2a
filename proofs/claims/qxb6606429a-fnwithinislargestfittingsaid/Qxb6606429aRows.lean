/-
  No cell of these rows narrows 'for every input' (looked for: loops, veiled, ifaces, maps, wideKeys, modest, calm, conditions, laid).
  DERIVED. THE GIVEN ROWS OF THIS SEAT. 3 by the template 'for every input the law returns true; each argument reads behind the call as it read before'; 0 by the template 'total and deterministic' (their statements: Qxb6606429aTotals.lean).
  GIVEN WITH THE SEED: the statements are not yours to turn. If you find one false, say at which input.
  Laid BY PROGRAM, IN A SANDBOX (cutbox-rows.mjs): the forced cells as the released guide's own fill.sh prints them over the translation bc1fc388c0074afe… (all of the seat's roots in one cut). By AI agents, Wed Nov 11 2026. No macro, syntax, notation, axiom, sorry.
-/
import Derived.Test.Qxb6606429aChecked
import GoSem.Claim
import GoSem.ClaimJoined
import GoSem.ClaimMapViews
import Derived.JoinedTies
import Derived.KernelRfl
namespace Go.Proofs.Qxb6606429a
/- THE CELL 'sum', in the pinned program and in every row, IS THE sha256 OF THE DUMP (.gsa) THAT Qxb6606429aProg.lean LOADS. Nothing in Lean hashes anything: it is a label: what it is worth is what the hold of that sum in a sandbox is worth. -/
noncomputable def Try.pinned : Pinned := { name := "qxb6606429a", sum := "bc1fc388c0074afee95a63fe07ec292826b27d8805eb58d235f3e30b9dd8bf81", checked := Try.checked }
namespace Rows
def none {H : Type} : Left H := { results := [], args := [] }

/-- 'zzlaws_internal_goheap_b1.FnWithinIsLargestFitting': WHATEVER THE INPUT: true; the input reads as it did. -/
def fnWithinIsLargestFittingSpec : ChangeSpec := { name := "fnWithinIsLargestFitting", fn := fun _ => fun
  | [d] => { results := [.lit (.bool true)], args := [d] }
  | _ => none }
def fnWithinIsLargestFittingRow : OpenClaim := { program := "qxb6606429a", sum := "bc1fc388c0074afee95a63fe07ec292826b27d8805eb58d235f3e30b9dd8bf81", func := "example.com/cortical-learning-nets/cortical-learning-nets/zzlaws_internal_goheap_b1.FnWithinIsLargestFitting", spec := "fnWithinIsLargestFitting", apart := false }
def FnWithinIsLargestFittingSaid : Prop := fnWithinIsLargestFittingRow.holds Try.pinned (OpenSpec.ofChange fnWithinIsLargestFittingSpec)

/-- ITS FALSE NEIGHBOUR: 'it returns false'. Refute it at one input. -/
def fnWithinIsLargestFittingWrong : ChangeSpec := { name := "fnWithinIsLargestFitting", fn := fun _ => fun
  | [d] => { results := [.lit (.bool false)], args := [d] }
  | _ => none }
def FnWithinIsLargestFittingWrongFalsely : Prop := fnWithinIsLargestFittingRow.holds Try.pinned (OpenSpec.ofChange fnWithinIsLargestFittingWrong)

/-- 'zzlaws_internal_goheap_b1.FnWithinInvertsWithIndex': WHATEVER THE INPUT: true; the input reads as it did. -/
def fnWithinInvertsWithIndexSpec : ChangeSpec := { name := "fnWithinInvertsWithIndex", fn := fun _ => fun
  | [d] => { results := [.lit (.bool true)], args := [d] }
  | _ => none }
def fnWithinInvertsWithIndexRow : OpenClaim := { program := "qxb6606429a", sum := "bc1fc388c0074afee95a63fe07ec292826b27d8805eb58d235f3e30b9dd8bf81", func := "example.com/cortical-learning-nets/cortical-learning-nets/zzlaws_internal_goheap_b1.FnWithinInvertsWithIndex", spec := "fnWithinInvertsWithIndex", apart := false }
def FnWithinInvertsWithIndexSaid : Prop := fnWithinInvertsWithIndexRow.holds Try.pinned (OpenSpec.ofChange fnWithinInvertsWithIndexSpec)

/-- ITS FALSE NEIGHBOUR: 'it returns false'. Refute it at one input. -/
def fnWithinInvertsWithIndexWrong : ChangeSpec := { name := "fnWithinInvertsWithIndex", fn := fun _ => fun
  | [d] => { results := [.lit (.bool false)], args := [d] }
  | _ => none }
def FnWithinInvertsWithIndexWrongFalsely : Prop := fnWithinInvertsWithIndexRow.holds Try.pinned (OpenSpec.ofChange fnWithinInvertsWithIndexWrong)

/-- 'zzlaws_internal_goheap_b1.FnWithinMonotone': WHATEVER THE INPUT: true; the input reads as it did. -/
def fnWithinMonotoneSpec : ChangeSpec := { name := "fnWithinMonotone", fn := fun _ => fun
  | [d1, d2] => { results := [.lit (.bool true)], args := [d1, d2] }
  | _ => none }
def fnWithinMonotoneRow : OpenClaim := { program := "qxb6606429a", sum := "bc1fc388c0074afee95a63fe07ec292826b27d8805eb58d235f3e30b9dd8bf81", func := "example.com/cortical-learning-nets/cortical-learning-nets/zzlaws_internal_goheap_b1.FnWithinMonotone", spec := "fnWithinMonotone", apart := false }
def FnWithinMonotoneSaid : Prop := fnWithinMonotoneRow.holds Try.pinned (OpenSpec.ofChange fnWithinMonotoneSpec)

/-- ITS FALSE NEIGHBOUR: 'it returns false'. Refute it at one input. -/
def fnWithinMonotoneWrong : ChangeSpec := { name := "fnWithinMonotone", fn := fun _ => fun
  | [d1, d2] => { results := [.lit (.bool false)], args := [d1, d2] }
  | _ => none }
def FnWithinMonotoneWrongFalsely : Prop := fnWithinMonotoneRow.holds Try.pinned (OpenSpec.ofChange fnWithinMonotoneWrong)

end Rows
end Go.Proofs.Qxb6606429a
