/-
  No cell of these rows narrows 'for every input' (looked for: loops, veiled, ifaces, maps, wideKeys, modest, calm, conditions, laid).
  DERIVED. THE GIVEN ROWS OF THIS SEAT. 2 by the template 'for every input the law returns true; each argument reads behind the call as it read before'; 0 by the template 'total and deterministic' (their statements: Qxb6603230aTotals.lean).
  GIVEN WITH THE SEED: the statements are not yours to turn. If you find one false, say at which input.
  Laid BY PROGRAM, IN A SANDBOX (cutbox-rows.mjs): the forced cells as the released guide's own fill.sh prints them over the translation d59bd6b53c307c9f… (all of the seat's roots in one cut). By AI agents, Wed Nov 11 2026. No macro, syntax, notation, axiom, sorry.
-/
import Derived.Test.Qxb6603230aChecked
import GoSem.Claim
import GoSem.ClaimJoined
import GoSem.ClaimMapViews
import Derived.JoinedTies
import Derived.KernelRfl
namespace Go.Proofs.Qxb6603230a
/- THE CELL 'sum', in the pinned program and in every row, IS THE sha256 OF THE DUMP (.gsa) THAT Qxb6603230aProg.lean LOADS. Nothing in Lean hashes anything: it is a label: what it is worth is what the hold of that sum in a sandbox is worth. -/
noncomputable def Try.pinned : Pinned := { name := "qxb6603230a", sum := "d59bd6b53c307c9fc9928b66bc1f0bceb8824b7845c0868a9ce4840ad8e81a21", checked := Try.checked }
namespace Rows
def none {H : Type} : Left H := { results := [], args := [] }

/-- 'zzlaws_plan_b1.FnValidIDMatchesAlphabet': WHATEVER THE INPUT: true; the input reads as it did. -/
def fnValidIDMatchesAlphabetSpec : ChangeSpec := { name := "fnValidIDMatchesAlphabet", fn := fun _ => fun
  | [d] => { results := [.lit (.bool true)], args := [d] }
  | _ => none }
def fnValidIDMatchesAlphabetRow : OpenClaim := { program := "qxb6603230a", sum := "d59bd6b53c307c9fc9928b66bc1f0bceb8824b7845c0868a9ce4840ad8e81a21", func := "example.com/vestline/vestline/zzlaws_plan_b1.FnValidIDMatchesAlphabet", spec := "fnValidIDMatchesAlphabet", apart := false }
def FnValidIDMatchesAlphabetSaid : Prop := fnValidIDMatchesAlphabetRow.holds Try.pinned (OpenSpec.ofChange fnValidIDMatchesAlphabetSpec)

/-- ITS FALSE NEIGHBOUR: 'it returns false'. Refute it at one input. -/
def fnValidIDMatchesAlphabetWrong : ChangeSpec := { name := "fnValidIDMatchesAlphabet", fn := fun _ => fun
  | [d] => { results := [.lit (.bool false)], args := [d] }
  | _ => none }
def FnValidIDMatchesAlphabetWrongFalsely : Prop := fnValidIDMatchesAlphabetRow.holds Try.pinned (OpenSpec.ofChange fnValidIDMatchesAlphabetWrong)

/-- 'zzlaws_plan_b1.FnValidIDConcatenation': WHATEVER THE INPUT: true; the input reads as it did. -/
def fnValidIDConcatenationSpec : ChangeSpec := { name := "fnValidIDConcatenation", fn := fun _ => fun
  | [d1, d2] => { results := [.lit (.bool true)], args := [d1, d2] }
  | _ => none }
def fnValidIDConcatenationRow : OpenClaim := { program := "qxb6603230a", sum := "d59bd6b53c307c9fc9928b66bc1f0bceb8824b7845c0868a9ce4840ad8e81a21", func := "example.com/vestline/vestline/zzlaws_plan_b1.FnValidIDConcatenation", spec := "fnValidIDConcatenation", apart := false }
def FnValidIDConcatenationSaid : Prop := fnValidIDConcatenationRow.holds Try.pinned (OpenSpec.ofChange fnValidIDConcatenationSpec)

/-- ITS FALSE NEIGHBOUR: 'it returns false'. Refute it at one input. -/
def fnValidIDConcatenationWrong : ChangeSpec := { name := "fnValidIDConcatenation", fn := fun _ => fun
  | [d1, d2] => { results := [.lit (.bool false)], args := [d1, d2] }
  | _ => none }
def FnValidIDConcatenationWrongFalsely : Prop := fnValidIDConcatenationRow.holds Try.pinned (OpenSpec.ofChange fnValidIDConcatenationWrong)

end Rows
end Go.Proofs.Qxb6603230a
