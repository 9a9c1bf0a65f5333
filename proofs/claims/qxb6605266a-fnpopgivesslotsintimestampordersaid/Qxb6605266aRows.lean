/-
  No cell of these rows narrows 'for every input' (looked for: loops, veiled, ifaces, maps, wideKeys, modest, calm, conditions, laid).
  DERIVED. THE GIVEN ROWS OF THIS SEAT. 3 by the template 'for every input the law returns true; each argument reads behind the call as it read before'; 0 by the template 'total and deterministic' (their statements: Qxb6605266aTotals.lean).
  GIVEN WITH THE SEED: the statements are not yours to turn. If you find one false, say at which input.
  Laid BY PROGRAM, IN A SANDBOX (cutbox-rows.mjs): the forced cells as the released guide's own fill.sh prints them over the translation b478435e873a1670… (all of the seat's roots in one cut). By AI agents, Wed Nov 11 2026. No macro, syntax, notation, axiom, sorry.
-/
import Derived.Test.Qxb6605266aChecked
import GoSem.Claim
import GoSem.ClaimJoined
import GoSem.ClaimMapViews
import Derived.JoinedTies
import Derived.KernelRfl
namespace Go.Proofs.Qxb6605266a
/- THE CELL 'sum', in the pinned program and in every row, IS THE sha256 OF THE DUMP (.gsa) THAT Qxb6605266aProg.lean LOADS. Nothing in Lean hashes anything: it is a label: what it is worth is what the hold of that sum in a sandbox is worth. -/
noncomputable def Try.pinned : Pinned := { name := "qxb6605266a", sum := "b478435e873a167049ca803ae5e5ebbcc43cccc91a0306a78d9c0d59df1d6289", checked := Try.checked }
namespace Rows
def none {H : Type} : Left H := { results := [], args := [] }

/-- 'zzlaws_root_b1.FnTakeMatchesSequenceTable': WHATEVER THE INPUT: true; the input reads as it did. -/
def fnTakeMatchesSequenceTableSpec : ChangeSpec := { name := "fnTakeMatchesSequenceTable", fn := fun _ => fun
  | [d1, d2, d3, d4, d5, d6, d7, d8, d9, d10, d11, d12] => { results := [.lit (.bool true)], args := [d1, d2, d3, d4, d5, d6, d7, d8, d9, d10, d11, d12] }
  | _ => none }
def fnTakeMatchesSequenceTableRow : OpenClaim := { program := "qxb6605266a", sum := "b478435e873a167049ca803ae5e5ebbcc43cccc91a0306a78d9c0d59df1d6289", func := "example.com/vocopack/vocopack/zzlaws_root_b1.FnTakeMatchesSequenceTable", spec := "fnTakeMatchesSequenceTable", apart := false }
def FnTakeMatchesSequenceTableSaid : Prop := fnTakeMatchesSequenceTableRow.holds Try.pinned (OpenSpec.ofChange fnTakeMatchesSequenceTableSpec)

/-- ITS FALSE NEIGHBOUR: 'it returns false'. Refute it at one input. -/
def fnTakeMatchesSequenceTableWrong : ChangeSpec := { name := "fnTakeMatchesSequenceTable", fn := fun _ => fun
  | [d1, d2, d3, d4, d5, d6, d7, d8, d9, d10, d11, d12] => { results := [.lit (.bool false)], args := [d1, d2, d3, d4, d5, d6, d7, d8, d9, d10, d11, d12] }
  | _ => none }
def FnTakeMatchesSequenceTableWrongFalsely : Prop := fnTakeMatchesSequenceTableRow.holds Try.pinned (OpenSpec.ofChange fnTakeMatchesSequenceTableWrong)

/-- 'zzlaws_root_b1.FnTakeCopyAcceptedAgainOtherRefused': WHATEVER THE INPUT: true; the input reads as it did. -/
def fnTakeCopyAcceptedAgainOtherRefusedSpec : ChangeSpec := { name := "fnTakeCopyAcceptedAgainOtherRefused", fn := fun _ => fun
  | [d1, d2, d3, d4, d5, d6, d7, d8, d9, d10, d11, d12] => { results := [.lit (.bool true)], args := [d1, d2, d3, d4, d5, d6, d7, d8, d9, d10, d11, d12] }
  | _ => none }
def fnTakeCopyAcceptedAgainOtherRefusedRow : OpenClaim := { program := "qxb6605266a", sum := "b478435e873a167049ca803ae5e5ebbcc43cccc91a0306a78d9c0d59df1d6289", func := "example.com/vocopack/vocopack/zzlaws_root_b1.FnTakeCopyAcceptedAgainOtherRefused", spec := "fnTakeCopyAcceptedAgainOtherRefused", apart := false }
def FnTakeCopyAcceptedAgainOtherRefusedSaid : Prop := fnTakeCopyAcceptedAgainOtherRefusedRow.holds Try.pinned (OpenSpec.ofChange fnTakeCopyAcceptedAgainOtherRefusedSpec)

/-- ITS FALSE NEIGHBOUR: 'it returns false'. Refute it at one input. -/
def fnTakeCopyAcceptedAgainOtherRefusedWrong : ChangeSpec := { name := "fnTakeCopyAcceptedAgainOtherRefused", fn := fun _ => fun
  | [d1, d2, d3, d4, d5, d6, d7, d8, d9, d10, d11, d12] => { results := [.lit (.bool false)], args := [d1, d2, d3, d4, d5, d6, d7, d8, d9, d10, d11, d12] }
  | _ => none }
def FnTakeCopyAcceptedAgainOtherRefusedWrongFalsely : Prop := fnTakeCopyAcceptedAgainOtherRefusedRow.holds Try.pinned (OpenSpec.ofChange fnTakeCopyAcceptedAgainOtherRefusedWrong)

/-- 'zzlaws_root_b1.FnPopGivesSlotsInTimestampOrder': WHATEVER THE INPUT: true; the input reads as it did. -/
def fnPopGivesSlotsInTimestampOrderSpec : ChangeSpec := { name := "fnPopGivesSlotsInTimestampOrder", fn := fun _ => fun
  | [d1, d2, d3, d4, d5, d6, d7, d8, d9] => { results := [.lit (.bool true)], args := [d1, d2, d3, d4, d5, d6, d7, d8, d9] }
  | _ => none }
def fnPopGivesSlotsInTimestampOrderRow : OpenClaim := { program := "qxb6605266a", sum := "b478435e873a167049ca803ae5e5ebbcc43cccc91a0306a78d9c0d59df1d6289", func := "example.com/vocopack/vocopack/zzlaws_root_b1.FnPopGivesSlotsInTimestampOrder", spec := "fnPopGivesSlotsInTimestampOrder", apart := false }
def FnPopGivesSlotsInTimestampOrderSaid : Prop := fnPopGivesSlotsInTimestampOrderRow.holds Try.pinned (OpenSpec.ofChange fnPopGivesSlotsInTimestampOrderSpec)

/-- ITS FALSE NEIGHBOUR: 'it returns false'. Refute it at one input. -/
def fnPopGivesSlotsInTimestampOrderWrong : ChangeSpec := { name := "fnPopGivesSlotsInTimestampOrder", fn := fun _ => fun
  | [d1, d2, d3, d4, d5, d6, d7, d8, d9] => { results := [.lit (.bool false)], args := [d1, d2, d3, d4, d5, d6, d7, d8, d9] }
  | _ => none }
def FnPopGivesSlotsInTimestampOrderWrongFalsely : Prop := fnPopGivesSlotsInTimestampOrderRow.holds Try.pinned (OpenSpec.ofChange fnPopGivesSlotsInTimestampOrderWrong)

end Rows
end Go.Proofs.Qxb6605266a
