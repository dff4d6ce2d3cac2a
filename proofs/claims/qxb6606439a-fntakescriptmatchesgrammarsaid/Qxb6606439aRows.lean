/-
  No cell of these rows narrows 'for every input' (looked for: loops, veiled, ifaces, maps, wideKeys, modest, calm, conditions, laid).
  DERIVED. THE GIVEN ROWS OF THIS SEAT. 3 by the template 'for every input the law returns true; each argument reads behind the call as it read before'; 0 by the template 'total and deterministic' (their statements: Qxb6606439aTotals.lean).
  GIVEN WITH THE SEED: the statements are not yours to turn. If you find one false, say at which input.
  Laid BY PROGRAM, IN A SANDBOX (cutbox-rows.mjs): the forced cells as the released guide's own fill.sh prints them over the translation 2f4e330738718798… (all of the seat's roots in one cut). By AI agents, Wed Nov 11 2026. No macro, syntax, notation, axiom, sorry.
-/
import Derived.Test.Qxb6606439aChecked
import GoSem.Claim
import GoSem.ClaimJoined
import GoSem.ClaimMapViews
import Derived.JoinedTies
import Derived.KernelRfl
namespace Go.Proofs.Qxb6606439a
/- THE CELL 'sum', in the pinned program and in every row, IS THE sha256 OF THE DUMP (.gsa) THAT Qxb6606439aProg.lean LOADS. Nothing in Lean hashes anything: it is a label: what it is worth is what the hold of that sum in a sandbox is worth. -/
noncomputable def Try.pinned : Pinned := { name := "qxb6606439a", sum := "2f4e3307387187986dc9cc6ca70c22363417c72891cc240629fe4e830769191b", checked := Try.checked }
namespace Rows
def none {H : Type} : Left H := { results := [], args := [] }

/-- 'zzlaws_root_b1.FnTakeFrame': WHATEVER THE INPUT: true; the input reads as it did. -/
def fnTakeFrameSpec : ChangeSpec := { name := "fnTakeFrame", fn := fun _ => fun
  | [d1, d2, d3, d4, d5, d6, d7, d8, d9, d10, d11, d12] => { results := [.lit (.bool true)], args := [d1, d2, d3, d4, d5, d6, d7, d8, d9, d10, d11, d12] }
  | _ => none }
def fnTakeFrameRow : OpenClaim := { program := "qxb6606439a", sum := "2f4e3307387187986dc9cc6ca70c22363417c72891cc240629fe4e830769191b", func := "example.com/sway-over-roles/sway-over-roles/zzlaws_root_b1.FnTakeFrame", spec := "fnTakeFrame", apart := false }
def FnTakeFrameSaid : Prop := fnTakeFrameRow.holds Try.pinned (OpenSpec.ofChange fnTakeFrameSpec)

/-- ITS FALSE NEIGHBOUR: 'it returns false'. Refute it at one input. -/
def fnTakeFrameWrong : ChangeSpec := { name := "fnTakeFrame", fn := fun _ => fun
  | [d1, d2, d3, d4, d5, d6, d7, d8, d9, d10, d11, d12] => { results := [.lit (.bool false)], args := [d1, d2, d3, d4, d5, d6, d7, d8, d9, d10, d11, d12] }
  | _ => none }
def FnTakeFrameWrongFalsely : Prop := fnTakeFrameRow.holds Try.pinned (OpenSpec.ofChange fnTakeFrameWrong)

/-- 'zzlaws_root_b1.FnTakeRepeatLine': WHATEVER THE INPUT: true; the input reads as it did. -/
def fnTakeRepeatLineSpec : ChangeSpec := { name := "fnTakeRepeatLine", fn := fun _ => fun
  | [d1, d2, d3, d4, d5, d6, d7, d8, d9, d10, d11, d12] => { results := [.lit (.bool true)], args := [d1, d2, d3, d4, d5, d6, d7, d8, d9, d10, d11, d12] }
  | _ => none }
def fnTakeRepeatLineRow : OpenClaim := { program := "qxb6606439a", sum := "2f4e3307387187986dc9cc6ca70c22363417c72891cc240629fe4e830769191b", func := "example.com/sway-over-roles/sway-over-roles/zzlaws_root_b1.FnTakeRepeatLine", spec := "fnTakeRepeatLine", apart := false }
def FnTakeRepeatLineSaid : Prop := fnTakeRepeatLineRow.holds Try.pinned (OpenSpec.ofChange fnTakeRepeatLineSpec)

/-- ITS FALSE NEIGHBOUR: 'it returns false'. Refute it at one input. -/
def fnTakeRepeatLineWrong : ChangeSpec := { name := "fnTakeRepeatLine", fn := fun _ => fun
  | [d1, d2, d3, d4, d5, d6, d7, d8, d9, d10, d11, d12] => { results := [.lit (.bool false)], args := [d1, d2, d3, d4, d5, d6, d7, d8, d9, d10, d11, d12] }
  | _ => none }
def FnTakeRepeatLineWrongFalsely : Prop := fnTakeRepeatLineRow.holds Try.pinned (OpenSpec.ofChange fnTakeRepeatLineWrong)

/-- 'zzlaws_root_b1.FnTakeScriptMatchesGrammar': WHATEVER THE INPUT: true; the input reads as it did. -/
def fnTakeScriptMatchesGrammarSpec : ChangeSpec := { name := "fnTakeScriptMatchesGrammar", fn := fun _ => fun
  | [d1, d2] => { results := [.lit (.bool true)], args := [d1, d2] }
  | _ => none }
def fnTakeScriptMatchesGrammarRow : OpenClaim := { program := "qxb6606439a", sum := "2f4e3307387187986dc9cc6ca70c22363417c72891cc240629fe4e830769191b", func := "example.com/sway-over-roles/sway-over-roles/zzlaws_root_b1.FnTakeScriptMatchesGrammar", spec := "fnTakeScriptMatchesGrammar", apart := false }
def FnTakeScriptMatchesGrammarSaid : Prop := fnTakeScriptMatchesGrammarRow.holds Try.pinned (OpenSpec.ofChange fnTakeScriptMatchesGrammarSpec)

/-- ITS FALSE NEIGHBOUR: 'it returns false'. Refute it at one input. -/
def fnTakeScriptMatchesGrammarWrong : ChangeSpec := { name := "fnTakeScriptMatchesGrammar", fn := fun _ => fun
  | [d1, d2] => { results := [.lit (.bool false)], args := [d1, d2] }
  | _ => none }
def FnTakeScriptMatchesGrammarWrongFalsely : Prop := fnTakeScriptMatchesGrammarRow.holds Try.pinned (OpenSpec.ofChange fnTakeScriptMatchesGrammarWrong)

end Rows
end Go.Proofs.Qxb6606439a
