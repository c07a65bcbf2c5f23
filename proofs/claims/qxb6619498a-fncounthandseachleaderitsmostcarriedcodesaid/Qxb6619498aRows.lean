/-
  No cell of these rows narrows 'for every input' (looked for: loops, veiled, ifaces, maps, wideKeys, modest, calm, conditions, laid).
  DERIVED. THE GIVEN ROWS OF THIS SEAT. 4 by the template 'for every input the law returns true; each argument reads behind the call as it read before'; 0 by the template 'total and deterministic' (their statements: Qxb6619498aTotals.lean).
  GIVEN WITH THE SEED: the statements are not yours to turn. If you find one false, say at which input.
  Laid BY PROGRAM, IN A SANDBOX (cutbox-rows.mjs): the forced cells as the released guide's own fill.sh prints them over the translation 6014504d202bd8e6… (all of the seat's roots in one cut). By AI agents, Wed Nov 11 2026. No macro, syntax, notation, axiom, sorry.
-/
import Derived.Test.Qxb6619498aChecked
import GoSem.Claim
import GoSem.ClaimJoined
import GoSem.ClaimMapViews
import Derived.JoinedTies
import Derived.KernelRfl
namespace Go.Proofs.Qxb6619498a
/- THE CELL 'sum', in the pinned program and in every row, IS THE sha256 OF THE DUMP (.gsa) THAT Qxb6619498aProg.lean LOADS. Nothing in Lean hashes anything: it is a label: what it is worth is what the hold of that sum in a sandbox is worth. -/
noncomputable def Try.pinned : Pinned := { name := "qxb6619498a", sum := "6014504d202bd8e648b45a4e3d6325556adb99739c87fd78576b71101adfc1b8", checked := Try.checked }
namespace Rows
def none {H : Type} : Left H := { results := [], args := [] }

/-- 'zzlaws_gradecast_b1.FnJudgeVerdictsMatchTheirDefinitions': WHATEVER THE INPUT: true; the input reads as it did. -/
def fnJudgeVerdictsMatchTheirDefinitionsSpec : ChangeSpec := { name := "fnJudgeVerdictsMatchTheirDefinitions", fn := fun _ => fun
  | [d1, d2] => { results := [.lit (.bool true)], args := [d1, d2] }
  | _ => none }
def fnJudgeVerdictsMatchTheirDefinitionsRow : OpenClaim := { program := "qxb6619498a", sum := "6014504d202bd8e648b45a4e3d6325556adb99739c87fd78576b71101adfc1b8", func := "example.com/plenum/plenum/zzlaws_gradecast_b1.FnJudgeVerdictsMatchTheirDefinitions", spec := "fnJudgeVerdictsMatchTheirDefinitions", apart := false }
def FnJudgeVerdictsMatchTheirDefinitionsSaid : Prop := fnJudgeVerdictsMatchTheirDefinitionsRow.holds Try.pinned (OpenSpec.ofChange fnJudgeVerdictsMatchTheirDefinitionsSpec)

/-- ITS FALSE NEIGHBOUR: 'it returns false'. Refute it at one input. -/
def fnJudgeVerdictsMatchTheirDefinitionsWrong : ChangeSpec := { name := "fnJudgeVerdictsMatchTheirDefinitions", fn := fun _ => fun
  | [d1, d2] => { results := [.lit (.bool false)], args := [d1, d2] }
  | _ => none }
def FnJudgeVerdictsMatchTheirDefinitionsWrongFalsely : Prop := fnJudgeVerdictsMatchTheirDefinitionsRow.holds Try.pinned (OpenSpec.ofChange fnJudgeVerdictsMatchTheirDefinitionsWrong)

/-- 'zzlaws_gradecast_b1.FnWireMessagePlacesSingleNamedCodesInNextSlot': WHATEVER THE INPUT: true; the input reads as it did. -/
def fnWireMessagePlacesSingleNamedCodesInNextSlotSpec : ChangeSpec := { name := "fnWireMessagePlacesSingleNamedCodesInNextSlot", fn := fun _ => fun
  | [d1, d2, d3, d4, d5, d6, d7] => { results := [.lit (.bool true)], args := [d1, d2, d3, d4, d5, d6, d7] }
  | _ => none }
def fnWireMessagePlacesSingleNamedCodesInNextSlotRow : OpenClaim := { program := "qxb6619498a", sum := "6014504d202bd8e648b45a4e3d6325556adb99739c87fd78576b71101adfc1b8", func := "example.com/plenum/plenum/zzlaws_gradecast_b1.FnWireMessagePlacesSingleNamedCodesInNextSlot", spec := "fnWireMessagePlacesSingleNamedCodesInNextSlot", apart := false }
def FnWireMessagePlacesSingleNamedCodesInNextSlotSaid : Prop := fnWireMessagePlacesSingleNamedCodesInNextSlotRow.holds Try.pinned (OpenSpec.ofChange fnWireMessagePlacesSingleNamedCodesInNextSlotSpec)

/-- ITS FALSE NEIGHBOUR: 'it returns false'. Refute it at one input. -/
def fnWireMessagePlacesSingleNamedCodesInNextSlotWrong : ChangeSpec := { name := "fnWireMessagePlacesSingleNamedCodesInNextSlot", fn := fun _ => fun
  | [d1, d2, d3, d4, d5, d6, d7] => { results := [.lit (.bool false)], args := [d1, d2, d3, d4, d5, d6, d7] }
  | _ => none }
def FnWireMessagePlacesSingleNamedCodesInNextSlotWrongFalsely : Prop := fnWireMessagePlacesSingleNamedCodesInNextSlotRow.holds Try.pinned (OpenSpec.ofChange fnWireMessagePlacesSingleNamedCodesInNextSlotWrong)

/-- 'zzlaws_gradecast_b1.FnWireRoundMessagesStayIntact': WHATEVER THE INPUT: true; the input reads as it did. -/
def fnWireRoundMessagesStayIntactSpec : ChangeSpec := { name := "fnWireRoundMessagesStayIntact", fn := fun _ => fun
  | [d1, d2] => { results := [.lit (.bool true)], args := [d1, d2] }
  | _ => none }
def fnWireRoundMessagesStayIntactRow : OpenClaim := { program := "qxb6619498a", sum := "6014504d202bd8e648b45a4e3d6325556adb99739c87fd78576b71101adfc1b8", func := "example.com/plenum/plenum/zzlaws_gradecast_b1.FnWireRoundMessagesStayIntact", spec := "fnWireRoundMessagesStayIntact", apart := false }
def FnWireRoundMessagesStayIntactSaid : Prop := fnWireRoundMessagesStayIntactRow.holds Try.pinned (OpenSpec.ofChange fnWireRoundMessagesStayIntactSpec)

/-- ITS FALSE NEIGHBOUR: 'it returns false'. Refute it at one input. -/
def fnWireRoundMessagesStayIntactWrong : ChangeSpec := { name := "fnWireRoundMessagesStayIntact", fn := fun _ => fun
  | [d1, d2] => { results := [.lit (.bool false)], args := [d1, d2] }
  | _ => none }
def FnWireRoundMessagesStayIntactWrongFalsely : Prop := fnWireRoundMessagesStayIntactRow.holds Try.pinned (OpenSpec.ofChange fnWireRoundMessagesStayIntactWrong)

/-- 'zzlaws_gradecast_b1.FnCountHandsEachLeaderItsMostCarriedCode': WHATEVER THE INPUT: true; the input reads as it did. -/
def fnCountHandsEachLeaderItsMostCarriedCodeSpec : ChangeSpec := { name := "fnCountHandsEachLeaderItsMostCarriedCode", fn := fun _ => fun
  | [d1, d2, d3, d4, d5, d6, d7, d8, d9] => { results := [.lit (.bool true)], args := [d1, d2, d3, d4, d5, d6, d7, d8, d9] }
  | _ => none }
def fnCountHandsEachLeaderItsMostCarriedCodeRow : OpenClaim := { program := "qxb6619498a", sum := "6014504d202bd8e648b45a4e3d6325556adb99739c87fd78576b71101adfc1b8", func := "example.com/plenum/plenum/zzlaws_gradecast_b1.FnCountHandsEachLeaderItsMostCarriedCode", spec := "fnCountHandsEachLeaderItsMostCarriedCode", apart := false }
def FnCountHandsEachLeaderItsMostCarriedCodeSaid : Prop := fnCountHandsEachLeaderItsMostCarriedCodeRow.holds Try.pinned (OpenSpec.ofChange fnCountHandsEachLeaderItsMostCarriedCodeSpec)

/-- ITS FALSE NEIGHBOUR: 'it returns false'. Refute it at one input. -/
def fnCountHandsEachLeaderItsMostCarriedCodeWrong : ChangeSpec := { name := "fnCountHandsEachLeaderItsMostCarriedCode", fn := fun _ => fun
  | [d1, d2, d3, d4, d5, d6, d7, d8, d9] => { results := [.lit (.bool false)], args := [d1, d2, d3, d4, d5, d6, d7, d8, d9] }
  | _ => none }
def FnCountHandsEachLeaderItsMostCarriedCodeWrongFalsely : Prop := fnCountHandsEachLeaderItsMostCarriedCodeRow.holds Try.pinned (OpenSpec.ofChange fnCountHandsEachLeaderItsMostCarriedCodeWrong)

end Rows
end Go.Proofs.Qxb6619498a
