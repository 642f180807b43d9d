/-
  No cell of these rows narrows 'for every input' (looked for: loops, veiled, ifaces, maps, wideKeys, modest, calm, conditions, laid).
  DERIVED. THE GIVEN ROWS OF THIS SEAT. 3 by the template 'for every input the law returns true; each argument reads behind the call as it read before'; 0 by the template 'total and deterministic' (their statements: Qxb6002791aTotals.lean).
  GIVEN WITH THE SEED: the statements are not yours to turn. If you find one false, say at which input.
  Laid BY PROGRAM, IN A SANDBOX (cutbox-rows.mjs): the forced cells as the released guide's own fill.sh prints them over the translation 50edc664ed2107de… (all of the seat's roots in one cut). By AI agents, Wed Nov 11 2026. No macro, syntax, notation, axiom, sorry.
-/
import Derived.Test.Qxb6002791aChecked
import GoSem.Claim
import GoSem.ClaimJoined
import GoSem.ClaimMapViews
import Derived.JoinedTies
import Derived.KernelRfl
namespace Go.Proofs.Qxb6002791a
/- THE CELL 'sum', in the pinned program and in every row, IS THE sha256 OF THE DUMP (.gsa) THAT Qxb6002791aProg.lean LOADS. Nothing in Lean hashes anything: it is a label: what it is worth is what the hold of that sum in a sandbox is worth. -/
noncomputable def Try.pinned : Pinned := { name := "qxb6002791a", sum := "50edc664ed2107deb106ff616ebfd74bacf0f85d0e7839a998921904e9329388", checked := Try.checked }
namespace Rows
def none {H : Type} : Left H := { results := [], args := [] }

/-- 'zzlaws_root_b1.FnRepeatCountMatchesModel': WHATEVER THE INPUT: true; the input reads as it did. -/
def fnRepeatCountMatchesModelSpec : ChangeSpec := { name := "fnRepeatCountMatchesModel", fn := fun _ => fun
  | [d] => { results := [.lit (.bool true)], args := [d] }
  | _ => none }
def fnRepeatCountMatchesModelRow : OpenClaim := { program := "qxb6002791a", sum := "50edc664ed2107deb106ff616ebfd74bacf0f85d0e7839a998921904e9329388", func := "example.com/bowerbird/bowerbird/zzlaws_root_b1.FnRepeatCountMatchesModel", spec := "fnRepeatCountMatchesModel", unfollowed := true, recurses := true, apart := false }
def FnRepeatCountMatchesModelSaid : Prop := fnRepeatCountMatchesModelRow.holds Try.pinned (OpenSpec.ofChange fnRepeatCountMatchesModelSpec)

/-- ITS FALSE NEIGHBOUR: 'it returns false'. Refute it at one input. -/
def fnRepeatCountMatchesModelWrong : ChangeSpec := { name := "fnRepeatCountMatchesModel", fn := fun _ => fun
  | [d] => { results := [.lit (.bool false)], args := [d] }
  | _ => none }
def FnRepeatCountMatchesModelWrongFalsely : Prop := fnRepeatCountMatchesModelRow.holds Try.pinned (OpenSpec.ofChange fnRepeatCountMatchesModelWrong)

/-- 'zzlaws_root_b1.FnRepeatCountPrefixClosed': WHATEVER THE INPUT: true; the input reads as it did. -/
def fnRepeatCountPrefixClosedSpec : ChangeSpec := { name := "fnRepeatCountPrefixClosed", fn := fun _ => fun
  | [d1, d2] => { results := [.lit (.bool true)], args := [d1, d2] }
  | _ => none }
def fnRepeatCountPrefixClosedRow : OpenClaim := { program := "qxb6002791a", sum := "50edc664ed2107deb106ff616ebfd74bacf0f85d0e7839a998921904e9329388", func := "example.com/bowerbird/bowerbird/zzlaws_root_b1.FnRepeatCountPrefixClosed", spec := "fnRepeatCountPrefixClosed", unfollowed := true, recurses := true, apart := false }
def FnRepeatCountPrefixClosedSaid : Prop := fnRepeatCountPrefixClosedRow.holds Try.pinned (OpenSpec.ofChange fnRepeatCountPrefixClosedSpec)

/-- ITS FALSE NEIGHBOUR: 'it returns false'. Refute it at one input. -/
def fnRepeatCountPrefixClosedWrong : ChangeSpec := { name := "fnRepeatCountPrefixClosed", fn := fun _ => fun
  | [d1, d2] => { results := [.lit (.bool false)], args := [d1, d2] }
  | _ => none }
def FnRepeatCountPrefixClosedWrongFalsely : Prop := fnRepeatCountPrefixClosedRow.holds Try.pinned (OpenSpec.ofChange fnRepeatCountPrefixClosedWrong)

/-- 'zzlaws_root_b1.FnRepeatShiftFree': WHATEVER THE INPUT: true; the input reads as it did. -/
def fnRepeatShiftFreeSpec : ChangeSpec := { name := "fnRepeatShiftFree", fn := fun _ => fun
  | [d1, d2, d3] => { results := [.lit (.bool true)], args := [d1, d2, d3] }
  | _ => none }
def fnRepeatShiftFreeRow : OpenClaim := { program := "qxb6002791a", sum := "50edc664ed2107deb106ff616ebfd74bacf0f85d0e7839a998921904e9329388", func := "example.com/bowerbird/bowerbird/zzlaws_root_b1.FnRepeatShiftFree", spec := "fnRepeatShiftFree", unfollowed := true, recurses := true, apart := false }
def FnRepeatShiftFreeSaid : Prop := fnRepeatShiftFreeRow.holds Try.pinned (OpenSpec.ofChange fnRepeatShiftFreeSpec)

/-- ITS FALSE NEIGHBOUR: 'it returns false'. Refute it at one input. -/
def fnRepeatShiftFreeWrong : ChangeSpec := { name := "fnRepeatShiftFree", fn := fun _ => fun
  | [d1, d2, d3] => { results := [.lit (.bool false)], args := [d1, d2, d3] }
  | _ => none }
def FnRepeatShiftFreeWrongFalsely : Prop := fnRepeatShiftFreeRow.holds Try.pinned (OpenSpec.ofChange fnRepeatShiftFreeWrong)

end Rows
end Go.Proofs.Qxb6002791a
