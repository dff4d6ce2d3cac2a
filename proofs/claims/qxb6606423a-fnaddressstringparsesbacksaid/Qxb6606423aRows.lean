/-
  No cell of these rows narrows 'for every input' (looked for: loops, veiled, ifaces, maps, wideKeys, modest, calm, conditions, laid).
  DERIVED. THE GIVEN ROWS OF THIS SEAT. 3 by the template 'for every input the law returns true; each argument reads behind the call as it read before'; 0 by the template 'total and deterministic' (their statements: Qxb6606423aTotals.lean).
  GIVEN WITH THE SEED: the statements are not yours to turn. If you find one false, say at which input.
  Laid BY PROGRAM, IN A SANDBOX (cutbox-rows.mjs): the forced cells as the released guide's own fill.sh prints them over the translation 87d71958114dc46f… (all of the seat's roots in one cut). By AI agents, Wed Nov 11 2026. No macro, syntax, notation, axiom, sorry.
-/
import Derived.Test.Qxb6606423aChecked
import GoSem.Claim
import GoSem.ClaimJoined
import GoSem.ClaimMapViews
import Derived.JoinedTies
import Derived.KernelRfl
namespace Go.Proofs.Qxb6606423a
/- THE CELL 'sum', in the pinned program and in every row, IS THE sha256 OF THE DUMP (.gsa) THAT Qxb6606423aProg.lean LOADS. Nothing in Lean hashes anything: it is a label: what it is worth is what the hold of that sum in a sandbox is worth. -/
noncomputable def Try.pinned : Pinned := { name := "qxb6606423a", sum := "87d71958114dc46f4f0ba877b412de3acb839d706bf242e378eecfebae3c4277", checked := Try.checked }
namespace Rows
def none {H : Type} : Left H := { results := [], args := [] }

/-- 'zzlaws_internal_address_b1.FnAddressStringParsesBack': WHATEVER THE INPUT: true; the input reads as it did. -/
def fnAddressStringParsesBackSpec : ChangeSpec := { name := "fnAddressStringParsesBack", fn := fun _ => fun
  | [d1, d2, d3] => { results := [.lit (.bool true)], args := [d1, d2, d3] }
  | _ => none }
def fnAddressStringParsesBackRow : OpenClaim := { program := "qxb6606423a", sum := "87d71958114dc46f4f0ba877b412de3acb839d706bf242e378eecfebae3c4277", func := "example.com/nudibranch/nudibranch/zzlaws_internal_address_b1.FnAddressStringParsesBack", spec := "fnAddressStringParsesBack", apart := false }
def FnAddressStringParsesBackSaid : Prop := fnAddressStringParsesBackRow.holds Try.pinned (OpenSpec.ofChange fnAddressStringParsesBackSpec)

/-- ITS FALSE NEIGHBOUR: 'it returns false'. Refute it at one input. -/
def fnAddressStringParsesBackWrong : ChangeSpec := { name := "fnAddressStringParsesBack", fn := fun _ => fun
  | [d1, d2, d3] => { results := [.lit (.bool false)], args := [d1, d2, d3] }
  | _ => none }
def FnAddressStringParsesBackWrongFalsely : Prop := fnAddressStringParsesBackRow.holds Try.pinned (OpenSpec.ofChange fnAddressStringParsesBackWrong)

/-- 'zzlaws_internal_address_b1.FnAddressStringRefOrPathAlone': WHATEVER THE INPUT: true; the input reads as it did. -/
def fnAddressStringRefOrPathAloneSpec : ChangeSpec := { name := "fnAddressStringRefOrPathAlone", fn := fun _ => fun
  | [d1, d2] => { results := [.lit (.bool true)], args := [d1, d2] }
  | _ => none }
def fnAddressStringRefOrPathAloneRow : OpenClaim := { program := "qxb6606423a", sum := "87d71958114dc46f4f0ba877b412de3acb839d706bf242e378eecfebae3c4277", func := "example.com/nudibranch/nudibranch/zzlaws_internal_address_b1.FnAddressStringRefOrPathAlone", spec := "fnAddressStringRefOrPathAlone", apart := false }
def FnAddressStringRefOrPathAloneSaid : Prop := fnAddressStringRefOrPathAloneRow.holds Try.pinned (OpenSpec.ofChange fnAddressStringRefOrPathAloneSpec)

/-- ITS FALSE NEIGHBOUR: 'it returns false'. Refute it at one input. -/
def fnAddressStringRefOrPathAloneWrong : ChangeSpec := { name := "fnAddressStringRefOrPathAlone", fn := fun _ => fun
  | [d1, d2] => { results := [.lit (.bool false)], args := [d1, d2] }
  | _ => none }
def FnAddressStringRefOrPathAloneWrongFalsely : Prop := fnAddressStringRefOrPathAloneRow.holds Try.pinned (OpenSpec.ofChange fnAddressStringRefOrPathAloneWrong)

/-- 'zzlaws_internal_address_b1.FnAddressStringExtendsByRefAndPath': WHATEVER THE INPUT: true; the input reads as it did. -/
def fnAddressStringExtendsByRefAndPathSpec : ChangeSpec := { name := "fnAddressStringExtendsByRefAndPath", fn := fun _ => fun
  | [d1, d2, d3] => { results := [.lit (.bool true)], args := [d1, d2, d3] }
  | _ => none }
def fnAddressStringExtendsByRefAndPathRow : OpenClaim := { program := "qxb6606423a", sum := "87d71958114dc46f4f0ba877b412de3acb839d706bf242e378eecfebae3c4277", func := "example.com/nudibranch/nudibranch/zzlaws_internal_address_b1.FnAddressStringExtendsByRefAndPath", spec := "fnAddressStringExtendsByRefAndPath", apart := false }
def FnAddressStringExtendsByRefAndPathSaid : Prop := fnAddressStringExtendsByRefAndPathRow.holds Try.pinned (OpenSpec.ofChange fnAddressStringExtendsByRefAndPathSpec)

/-- ITS FALSE NEIGHBOUR: 'it returns false'. Refute it at one input. -/
def fnAddressStringExtendsByRefAndPathWrong : ChangeSpec := { name := "fnAddressStringExtendsByRefAndPath", fn := fun _ => fun
  | [d1, d2, d3] => { results := [.lit (.bool false)], args := [d1, d2, d3] }
  | _ => none }
def FnAddressStringExtendsByRefAndPathWrongFalsely : Prop := fnAddressStringExtendsByRefAndPathRow.holds Try.pinned (OpenSpec.ofChange fnAddressStringExtendsByRefAndPathWrong)

end Rows
end Go.Proofs.Qxb6606423a
