/-
  No cell of these rows narrows 'for every input' (looked for: loops, veiled, ifaces, maps, wideKeys, modest, calm, conditions, laid).
  DERIVED. THE GIVEN ROWS OF THIS SEAT. 5 by the template 'for every input the law returns true; each argument reads behind the call as it read before'; 0 by the template 'total and deterministic' (their statements: Qxb6619794aTotals.lean).
  GIVEN WITH THE SEED: the statements are not yours to turn. If you find one false, say at which input.
  Laid BY PROGRAM, IN A SANDBOX (cutbox-rows.mjs): the forced cells as the released guide's own fill.sh prints them over the translation 879ab7f7f7c413f3… (all of the seat's roots in one cut). By AI agents, Wed Nov 11 2026. No macro, syntax, notation, axiom, sorry.
-/
import Derived.Test.Qxb6619794aChecked
import GoSem.Claim
import GoSem.ClaimJoined
import GoSem.ClaimMapViews
import Derived.JoinedTies
import Derived.KernelRfl
namespace Go.Proofs.Qxb6619794a
/- THE CELL 'sum', in the pinned program and in every row, IS THE sha256 OF THE DUMP (.gsa) THAT Qxb6619794aProg.lean LOADS. Nothing in Lean hashes anything: it is a label: what it is worth is what the hold of that sum in a sandbox is worth. -/
noncomputable def Try.pinned : Pinned := { name := "qxb6619794a", sum := "879ab7f7f7c413f3cf5d6229acf8e02c99eb6f5148e2f0576c16a57797ff17db", checked := Try.checked }
namespace Rows
def none {H : Type} : Left H := { results := [], args := [] }

/-- 'zzlaws_pkg_store_b1.FnRemoveKeepsSortedSetExactly': WHATEVER THE INPUT: true; the input reads as it did. -/
def fnRemoveKeepsSortedSetExactlySpec : ChangeSpec := { name := "fnRemoveKeepsSortedSetExactly", fn := fun _ => fun
  | [d1, d2, d3, d4, d5] => { results := [.lit (.bool true)], args := [d1, d2, d3, d4, d5] }
  | _ => none }
def fnRemoveKeepsSortedSetExactlyRow : OpenClaim := { program := "qxb6619794a", sum := "879ab7f7f7c413f3cf5d6229acf8e02c99eb6f5148e2f0576c16a57797ff17db", func := "example.com/holdfast/holdfast/zzlaws_pkg_store_b1.FnRemoveKeepsSortedSetExactly", spec := "fnRemoveKeepsSortedSetExactly", inPlace := ["internal/bytealg.abigen_runtime_cmpstring"], unfollowed := true, recurses := true, apart := false }
def FnRemoveKeepsSortedSetExactlySaid : Prop := fnRemoveKeepsSortedSetExactlyRow.holds Try.pinned (OpenSpec.ofChange fnRemoveKeepsSortedSetExactlySpec)

/-- ITS FALSE NEIGHBOUR: 'it returns false'. Refute it at one input. -/
def fnRemoveKeepsSortedSetExactlyWrong : ChangeSpec := { name := "fnRemoveKeepsSortedSetExactly", fn := fun _ => fun
  | [d1, d2, d3, d4, d5] => { results := [.lit (.bool false)], args := [d1, d2, d3, d4, d5] }
  | _ => none }
def FnRemoveKeepsSortedSetExactlyWrongFalsely : Prop := fnRemoveKeepsSortedSetExactlyRow.holds Try.pinned (OpenSpec.ofChange fnRemoveKeepsSortedSetExactlyWrong)

/-- 'zzlaws_pkg_store_b1.FnSeekJustPastKeyStepsOverIt': WHATEVER THE INPUT: true; the input reads as it did. -/
def fnSeekJustPastKeyStepsOverItSpec : ChangeSpec := { name := "fnSeekJustPastKeyStepsOverIt", fn := fun _ => fun
  | [d1, d2, d3, d4, d5] => { results := [.lit (.bool true)], args := [d1, d2, d3, d4, d5] }
  | _ => none }
def fnSeekJustPastKeyStepsOverItRow : OpenClaim := { program := "qxb6619794a", sum := "879ab7f7f7c413f3cf5d6229acf8e02c99eb6f5148e2f0576c16a57797ff17db", func := "example.com/holdfast/holdfast/zzlaws_pkg_store_b1.FnSeekJustPastKeyStepsOverIt", spec := "fnSeekJustPastKeyStepsOverIt", inPlace := ["internal/bytealg.abigen_runtime_cmpstring"], unfollowed := true, recurses := true, apart := false }
def FnSeekJustPastKeyStepsOverItSaid : Prop := fnSeekJustPastKeyStepsOverItRow.holds Try.pinned (OpenSpec.ofChange fnSeekJustPastKeyStepsOverItSpec)

/-- ITS FALSE NEIGHBOUR: 'it returns false'. Refute it at one input. -/
def fnSeekJustPastKeyStepsOverItWrong : ChangeSpec := { name := "fnSeekJustPastKeyStepsOverIt", fn := fun _ => fun
  | [d1, d2, d3, d4, d5] => { results := [.lit (.bool false)], args := [d1, d2, d3, d4, d5] }
  | _ => none }
def FnSeekJustPastKeyStepsOverItWrongFalsely : Prop := fnSeekJustPastKeyStepsOverItRow.holds Try.pinned (OpenSpec.ofChange fnSeekJustPastKeyStepsOverItWrong)

/-- 'zzlaws_pkg_store_b1.FnInsertKeepsSortedSetExactly': WHATEVER THE INPUT: true; the input reads as it did. -/
def fnInsertKeepsSortedSetExactlySpec : ChangeSpec := { name := "fnInsertKeepsSortedSetExactly", fn := fun _ => fun
  | [d1, d2, d3, d4, d5] => { results := [.lit (.bool true)], args := [d1, d2, d3, d4, d5] }
  | _ => none }
def fnInsertKeepsSortedSetExactlyRow : OpenClaim := { program := "qxb6619794a", sum := "879ab7f7f7c413f3cf5d6229acf8e02c99eb6f5148e2f0576c16a57797ff17db", func := "example.com/holdfast/holdfast/zzlaws_pkg_store_b1.FnInsertKeepsSortedSetExactly", spec := "fnInsertKeepsSortedSetExactly", inPlace := ["internal/bytealg.abigen_runtime_cmpstring", "slices.overlaps[string]", "slices.overlaps[*example.com/holdfast/holdfast/pkg/store.keyChunk]"], unfollowed := true, recurses := true, apart := false }
def FnInsertKeepsSortedSetExactlySaid : Prop := fnInsertKeepsSortedSetExactlyRow.holds Try.pinned (OpenSpec.ofChange fnInsertKeepsSortedSetExactlySpec)

/-- ITS FALSE NEIGHBOUR: 'it returns false'. Refute it at one input. -/
def fnInsertKeepsSortedSetExactlyWrong : ChangeSpec := { name := "fnInsertKeepsSortedSetExactly", fn := fun _ => fun
  | [d1, d2, d3, d4, d5] => { results := [.lit (.bool false)], args := [d1, d2, d3, d4, d5] }
  | _ => none }
def FnInsertKeepsSortedSetExactlyWrongFalsely : Prop := fnInsertKeepsSortedSetExactlyRow.holds Try.pinned (OpenSpec.ofChange fnInsertKeepsSortedSetExactlyWrong)

/-- 'zzlaws_pkg_store_b1.FnInsertThenSeekFindsItAndRemoveUndoes': WHATEVER THE INPUT: true; the input reads as it did. -/
def fnInsertThenSeekFindsItAndRemoveUndoesSpec : ChangeSpec := { name := "fnInsertThenSeekFindsItAndRemoveUndoes", fn := fun _ => fun
  | [d1, d2, d3, d4, d5] => { results := [.lit (.bool true)], args := [d1, d2, d3, d4, d5] }
  | _ => none }
def fnInsertThenSeekFindsItAndRemoveUndoesRow : OpenClaim := { program := "qxb6619794a", sum := "879ab7f7f7c413f3cf5d6229acf8e02c99eb6f5148e2f0576c16a57797ff17db", func := "example.com/holdfast/holdfast/zzlaws_pkg_store_b1.FnInsertThenSeekFindsItAndRemoveUndoes", spec := "fnInsertThenSeekFindsItAndRemoveUndoes", inPlace := ["internal/bytealg.abigen_runtime_cmpstring", "slices.overlaps[string]", "slices.overlaps[*example.com/holdfast/holdfast/pkg/store.keyChunk]"], unfollowed := true, recurses := true, apart := false }
def FnInsertThenSeekFindsItAndRemoveUndoesSaid : Prop := fnInsertThenSeekFindsItAndRemoveUndoesRow.holds Try.pinned (OpenSpec.ofChange fnInsertThenSeekFindsItAndRemoveUndoesSpec)

/-- ITS FALSE NEIGHBOUR: 'it returns false'. Refute it at one input. -/
def fnInsertThenSeekFindsItAndRemoveUndoesWrong : ChangeSpec := { name := "fnInsertThenSeekFindsItAndRemoveUndoes", fn := fun _ => fun
  | [d1, d2, d3, d4, d5] => { results := [.lit (.bool false)], args := [d1, d2, d3, d4, d5] }
  | _ => none }
def FnInsertThenSeekFindsItAndRemoveUndoesWrongFalsely : Prop := fnInsertThenSeekFindsItAndRemoveUndoesRow.holds Try.pinned (OpenSpec.ofChange fnInsertThenSeekFindsItAndRemoveUndoesWrong)

/-- 'zzlaws_pkg_store_b1.FnRemoveThenSeekAndInsertRestore': WHATEVER THE INPUT: true; the input reads as it did. -/
def fnRemoveThenSeekAndInsertRestoreSpec : ChangeSpec := { name := "fnRemoveThenSeekAndInsertRestore", fn := fun _ => fun
  | [d1, d2, d3, d4, d5] => { results := [.lit (.bool true)], args := [d1, d2, d3, d4, d5] }
  | _ => none }
def fnRemoveThenSeekAndInsertRestoreRow : OpenClaim := { program := "qxb6619794a", sum := "879ab7f7f7c413f3cf5d6229acf8e02c99eb6f5148e2f0576c16a57797ff17db", func := "example.com/holdfast/holdfast/zzlaws_pkg_store_b1.FnRemoveThenSeekAndInsertRestore", spec := "fnRemoveThenSeekAndInsertRestore", inPlace := ["internal/bytealg.abigen_runtime_cmpstring", "slices.overlaps[string]", "slices.overlaps[*example.com/holdfast/holdfast/pkg/store.keyChunk]"], unfollowed := true, recurses := true, apart := false }
def FnRemoveThenSeekAndInsertRestoreSaid : Prop := fnRemoveThenSeekAndInsertRestoreRow.holds Try.pinned (OpenSpec.ofChange fnRemoveThenSeekAndInsertRestoreSpec)

/-- ITS FALSE NEIGHBOUR: 'it returns false'. Refute it at one input. -/
def fnRemoveThenSeekAndInsertRestoreWrong : ChangeSpec := { name := "fnRemoveThenSeekAndInsertRestore", fn := fun _ => fun
  | [d1, d2, d3, d4, d5] => { results := [.lit (.bool false)], args := [d1, d2, d3, d4, d5] }
  | _ => none }
def FnRemoveThenSeekAndInsertRestoreWrongFalsely : Prop := fnRemoveThenSeekAndInsertRestoreRow.holds Try.pinned (OpenSpec.ofChange fnRemoveThenSeekAndInsertRestoreWrong)

end Rows
end Go.Proofs.Qxb6619794a
