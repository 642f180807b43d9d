/-
  No cell of these rows narrows 'for every input' (looked for: loops, veiled, ifaces, maps, wideKeys, modest, calm, conditions, laid).
  DERIVED. THE GIVEN ROWS OF THIS SEAT. 8 by the template 'for every input the law returns true; each argument reads behind the call as it read before'; 0 by the template 'total and deterministic' (their statements: Qxb6600861aTotals.lean).
  GIVEN WITH THE SEED: the statements are not yours to turn. If you find one false, say at which input.
  Laid BY PROGRAM, IN A SANDBOX (cutbox-rows.mjs): the forced cells as the released guide's own fill.sh prints them over the translation 5b737390d9925d57… (all of the seat's roots in one cut). By AI agents, Wed Nov 11 2026. No macro, syntax, notation, axiom, sorry.
-/
import Derived.Test.Qxb6600861aChecked
import GoSem.Claim
import GoSem.ClaimJoined
import GoSem.ClaimMapViews
import Derived.JoinedTies
import Derived.KernelRfl
namespace Go.Proofs.Qxb6600861a
/- THE CELL 'sum', in the pinned program and in every row, IS THE sha256 OF THE DUMP (.gsa) THAT Qxb6600861aProg.lean LOADS. Nothing in Lean hashes anything: it is a label: what it is worth is what the hold of that sum in a sandbox is worth. -/
noncomputable def Try.pinned : Pinned := { name := "qxb6600861a", sum := "5b737390d9925d57a2b8be5dbf9d7528059c36b93cb09538bf87a6419614c3bf", checked := Try.checked }
namespace Rows
def none {H : Type} : Left H := { results := [], args := [] }

/-- 'zzlaws_pkg_messagesapi_b1.FnApplyToSetsGivenKeepsRest': WHATEVER THE INPUT: true; the input reads as it did. -/
def fnApplyToSetsGivenKeepsRestSpec : ChangeSpec := { name := "fnApplyToSetsGivenKeepsRest", fn := fun _ => fun
  | [d1, d2, d3, d4, d5, d6, d7, d8, d9, d10, d11, d12] => { results := [.lit (.bool true)], args := [d1, d2, d3, d4, d5, d6, d7, d8, d9, d10, d11, d12] }
  | _ => none }
def fnApplyToSetsGivenKeepsRestRow : OpenClaim := { program := "qxb6600861a", sum := "5b737390d9925d57a2b8be5dbf9d7528059c36b93cb09538bf87a6419614c3bf", func := "example.com/dimro/dimro/zzlaws_pkg_messagesapi_b1.FnApplyToSetsGivenKeepsRest", spec := "fnApplyToSetsGivenKeepsRest", apart := false }
def FnApplyToSetsGivenKeepsRestSaid : Prop := fnApplyToSetsGivenKeepsRestRow.holds Try.pinned (OpenSpec.ofChange fnApplyToSetsGivenKeepsRestSpec)

/-- ITS FALSE NEIGHBOUR: 'it returns false'. Refute it at one input. -/
def fnApplyToSetsGivenKeepsRestWrong : ChangeSpec := { name := "fnApplyToSetsGivenKeepsRest", fn := fun _ => fun
  | [d1, d2, d3, d4, d5, d6, d7, d8, d9, d10, d11, d12] => { results := [.lit (.bool false)], args := [d1, d2, d3, d4, d5, d6, d7, d8, d9, d10, d11, d12] }
  | _ => none }
def FnApplyToSetsGivenKeepsRestWrongFalsely : Prop := fnApplyToSetsGivenKeepsRestRow.holds Try.pinned (OpenSpec.ofChange fnApplyToSetsGivenKeepsRestWrong)

/-- 'zzlaws_pkg_messagesapi_b1.FnApplyToLaterGivenCountWins': WHATEVER THE INPUT: true; the input reads as it did. -/
def fnApplyToLaterGivenCountWinsSpec : ChangeSpec := { name := "fnApplyToLaterGivenCountWins", fn := fun _ => fun
  | [d1, d2, d3, d4, d5] => { results := [.lit (.bool true)], args := [d1, d2, d3, d4, d5] }
  | _ => none }
def fnApplyToLaterGivenCountWinsRow : OpenClaim := { program := "qxb6600861a", sum := "5b737390d9925d57a2b8be5dbf9d7528059c36b93cb09538bf87a6419614c3bf", func := "example.com/dimro/dimro/zzlaws_pkg_messagesapi_b1.FnApplyToLaterGivenCountWins", spec := "fnApplyToLaterGivenCountWins", apart := false }
def FnApplyToLaterGivenCountWinsSaid : Prop := fnApplyToLaterGivenCountWinsRow.holds Try.pinned (OpenSpec.ofChange fnApplyToLaterGivenCountWinsSpec)

/-- ITS FALSE NEIGHBOUR: 'it returns false'. Refute it at one input. -/
def fnApplyToLaterGivenCountWinsWrong : ChangeSpec := { name := "fnApplyToLaterGivenCountWins", fn := fun _ => fun
  | [d1, d2, d3, d4, d5] => { results := [.lit (.bool false)], args := [d1, d2, d3, d4, d5] }
  | _ => none }
def FnApplyToLaterGivenCountWinsWrongFalsely : Prop := fnApplyToLaterGivenCountWinsRow.holds Try.pinned (OpenSpec.ofChange fnApplyToLaterGivenCountWinsWrong)

/-- 'zzlaws_pkg_messagesapi_b1.FnApplyToTwiceIsOnce': WHATEVER THE INPUT: true; the input reads as it did. -/
def fnApplyToTwiceIsOnceSpec : ChangeSpec := { name := "fnApplyToTwiceIsOnce", fn := fun _ => fun
  | [d1, d2, d3, d4, d5, d6, d7, d8, d9, d10, d11, d12] => { results := [.lit (.bool true)], args := [d1, d2, d3, d4, d5, d6, d7, d8, d9, d10, d11, d12] }
  | _ => none }
def fnApplyToTwiceIsOnceRow : OpenClaim := { program := "qxb6600861a", sum := "5b737390d9925d57a2b8be5dbf9d7528059c36b93cb09538bf87a6419614c3bf", func := "example.com/dimro/dimro/zzlaws_pkg_messagesapi_b1.FnApplyToTwiceIsOnce", spec := "fnApplyToTwiceIsOnce", apart := false }
def FnApplyToTwiceIsOnceSaid : Prop := fnApplyToTwiceIsOnceRow.holds Try.pinned (OpenSpec.ofChange fnApplyToTwiceIsOnceSpec)

/-- ITS FALSE NEIGHBOUR: 'it returns false'. Refute it at one input. -/
def fnApplyToTwiceIsOnceWrong : ChangeSpec := { name := "fnApplyToTwiceIsOnce", fn := fun _ => fun
  | [d1, d2, d3, d4, d5, d6, d7, d8, d9, d10, d11, d12] => { results := [.lit (.bool false)], args := [d1, d2, d3, d4, d5, d6, d7, d8, d9, d10, d11, d12] }
  | _ => none }
def FnApplyToTwiceIsOnceWrongFalsely : Prop := fnApplyToTwiceIsOnceRow.holds Try.pinned (OpenSpec.ofChange fnApplyToTwiceIsOnceWrong)

/-- 'zzlaws_pkg_messagesapi_b1.FnNewUsageThenApplyToSetsAll': WHATEVER THE INPUT: true; the input reads as it did. -/
def fnNewUsageThenApplyToSetsAllSpec : ChangeSpec := { name := "fnNewUsageThenApplyToSetsAll", fn := fun _ => fun
  | [d1, d2, d3, d4, d5, d6, d7, d8] => { results := [.lit (.bool true)], args := [d1, d2, d3, d4, d5, d6, d7, d8] }
  | _ => none }
def fnNewUsageThenApplyToSetsAllRow : OpenClaim := { program := "qxb6600861a", sum := "5b737390d9925d57a2b8be5dbf9d7528059c36b93cb09538bf87a6419614c3bf", func := "example.com/dimro/dimro/zzlaws_pkg_messagesapi_b1.FnNewUsageThenApplyToSetsAll", spec := "fnNewUsageThenApplyToSetsAll", apart := false }
def FnNewUsageThenApplyToSetsAllSaid : Prop := fnNewUsageThenApplyToSetsAllRow.holds Try.pinned (OpenSpec.ofChange fnNewUsageThenApplyToSetsAllSpec)

/-- ITS FALSE NEIGHBOUR: 'it returns false'. Refute it at one input. -/
def fnNewUsageThenApplyToSetsAllWrong : ChangeSpec := { name := "fnNewUsageThenApplyToSetsAll", fn := fun _ => fun
  | [d1, d2, d3, d4, d5, d6, d7, d8] => { results := [.lit (.bool false)], args := [d1, d2, d3, d4, d5, d6, d7, d8] }
  | _ => none }
def FnNewUsageThenApplyToSetsAllWrongFalsely : Prop := fnNewUsageThenApplyToSetsAllRow.holds Try.pinned (OpenSpec.ofChange fnNewUsageThenApplyToSetsAllWrong)

/-- 'zzlaws_pkg_messagesapi_b1.FnNewUsageCountsAreSeparate': WHATEVER THE INPUT: true; the input reads as it did. -/
def fnNewUsageCountsAreSeparateSpec : ChangeSpec := { name := "fnNewUsageCountsAreSeparate", fn := fun _ => fun
  | [d1, d2, d3, d4] => { results := [.lit (.bool true)], args := [d1, d2, d3, d4] }
  | _ => none }
def fnNewUsageCountsAreSeparateRow : OpenClaim := { program := "qxb6600861a", sum := "5b737390d9925d57a2b8be5dbf9d7528059c36b93cb09538bf87a6419614c3bf", func := "example.com/dimro/dimro/zzlaws_pkg_messagesapi_b1.FnNewUsageCountsAreSeparate", spec := "fnNewUsageCountsAreSeparate", apart := false }
def FnNewUsageCountsAreSeparateSaid : Prop := fnNewUsageCountsAreSeparateRow.holds Try.pinned (OpenSpec.ofChange fnNewUsageCountsAreSeparateSpec)

/-- ITS FALSE NEIGHBOUR: 'it returns false'. Refute it at one input. -/
def fnNewUsageCountsAreSeparateWrong : ChangeSpec := { name := "fnNewUsageCountsAreSeparate", fn := fun _ => fun
  | [d1, d2, d3, d4] => { results := [.lit (.bool false)], args := [d1, d2, d3, d4] }
  | _ => none }
def FnNewUsageCountsAreSeparateWrongFalsely : Prop := fnNewUsageCountsAreSeparateRow.holds Try.pinned (OpenSpec.ofChange fnNewUsageCountsAreSeparateWrong)

/-- 'zzlaws_pkg_messagesapi_b1.FnNewImageBlockSpec': WHATEVER THE INPUT: true; the input reads as it did. -/
def fnNewImageBlockSpecSpec : ChangeSpec := { name := "fnNewImageBlockSpec", fn := fun _ => fun
  | [d1, d2, d3, d4, d5] => { results := [.lit (.bool true)], args := [d1, d2, d3, d4, d5] }
  | _ => none }
def fnNewImageBlockSpecRow : OpenClaim := { program := "qxb6600861a", sum := "5b737390d9925d57a2b8be5dbf9d7528059c36b93cb09538bf87a6419614c3bf", func := "example.com/dimro/dimro/zzlaws_pkg_messagesapi_b1.FnNewImageBlockSpec", spec := "fnNewImageBlockSpec", apart := false }
def FnNewImageBlockSpecSaid : Prop := fnNewImageBlockSpecRow.holds Try.pinned (OpenSpec.ofChange fnNewImageBlockSpecSpec)

/-- ITS FALSE NEIGHBOUR: 'it returns false'. Refute it at one input. -/
def fnNewImageBlockSpecWrong : ChangeSpec := { name := "fnNewImageBlockSpec", fn := fun _ => fun
  | [d1, d2, d3, d4, d5] => { results := [.lit (.bool false)], args := [d1, d2, d3, d4, d5] }
  | _ => none }
def FnNewImageBlockSpecWrongFalsely : Prop := fnNewImageBlockSpecRow.holds Try.pinned (OpenSpec.ofChange fnNewImageBlockSpecWrong)

/-- 'zzlaws_pkg_messagesapi_b1.FnNewImageBlockSameSourceExactly': WHATEVER THE INPUT: true; the input reads as it did. -/
def fnNewImageBlockSameSourceExactlySpec : ChangeSpec := { name := "fnNewImageBlockSameSourceExactly", fn := fun _ => fun
  | [d1, d2, d3, d4, d5, d6, d7] => { results := [.lit (.bool true)], args := [d1, d2, d3, d4, d5, d6, d7] }
  | _ => none }
def fnNewImageBlockSameSourceExactlyRow : OpenClaim := { program := "qxb6600861a", sum := "5b737390d9925d57a2b8be5dbf9d7528059c36b93cb09538bf87a6419614c3bf", func := "example.com/dimro/dimro/zzlaws_pkg_messagesapi_b1.FnNewImageBlockSameSourceExactly", spec := "fnNewImageBlockSameSourceExactly", apart := false }
def FnNewImageBlockSameSourceExactlySaid : Prop := fnNewImageBlockSameSourceExactlyRow.holds Try.pinned (OpenSpec.ofChange fnNewImageBlockSameSourceExactlySpec)

/-- ITS FALSE NEIGHBOUR: 'it returns false'. Refute it at one input. -/
def fnNewImageBlockSameSourceExactlyWrong : ChangeSpec := { name := "fnNewImageBlockSameSourceExactly", fn := fun _ => fun
  | [d1, d2, d3, d4, d5, d6, d7] => { results := [.lit (.bool false)], args := [d1, d2, d3, d4, d5, d6, d7] }
  | _ => none }
def FnNewImageBlockSameSourceExactlyWrongFalsely : Prop := fnNewImageBlockSameSourceExactlyRow.holds Try.pinned (OpenSpec.ofChange fnNewImageBlockSameSourceExactlyWrong)

/-- 'zzlaws_pkg_messagesapi_b1.FnNewImageBlockCacheControlIsItsOwn': WHATEVER THE INPUT: true; the input reads as it did. -/
def fnNewImageBlockCacheControlIsItsOwnSpec : ChangeSpec := { name := "fnNewImageBlockCacheControlIsItsOwn", fn := fun _ => fun
  | [d1, d2, d3, d4] => { results := [.lit (.bool true)], args := [d1, d2, d3, d4] }
  | _ => none }
def fnNewImageBlockCacheControlIsItsOwnRow : OpenClaim := { program := "qxb6600861a", sum := "5b737390d9925d57a2b8be5dbf9d7528059c36b93cb09538bf87a6419614c3bf", func := "example.com/dimro/dimro/zzlaws_pkg_messagesapi_b1.FnNewImageBlockCacheControlIsItsOwn", spec := "fnNewImageBlockCacheControlIsItsOwn", apart := false }
def FnNewImageBlockCacheControlIsItsOwnSaid : Prop := fnNewImageBlockCacheControlIsItsOwnRow.holds Try.pinned (OpenSpec.ofChange fnNewImageBlockCacheControlIsItsOwnSpec)

/-- ITS FALSE NEIGHBOUR: 'it returns false'. Refute it at one input. -/
def fnNewImageBlockCacheControlIsItsOwnWrong : ChangeSpec := { name := "fnNewImageBlockCacheControlIsItsOwn", fn := fun _ => fun
  | [d1, d2, d3, d4] => { results := [.lit (.bool false)], args := [d1, d2, d3, d4] }
  | _ => none }
def FnNewImageBlockCacheControlIsItsOwnWrongFalsely : Prop := fnNewImageBlockCacheControlIsItsOwnRow.holds Try.pinned (OpenSpec.ofChange fnNewImageBlockCacheControlIsItsOwnWrong)

end Rows
end Go.Proofs.Qxb6600861a
