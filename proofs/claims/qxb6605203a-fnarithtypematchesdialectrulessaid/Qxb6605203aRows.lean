/-
  No cell of these rows narrows 'for every input' (looked for: loops, veiled, ifaces, maps, wideKeys, modest, calm, conditions, laid).
  DERIVED. THE GIVEN ROWS OF THIS SEAT. 4 by the template 'for every input the law returns true; each argument reads behind the call as it read before'; 0 by the template 'total and deterministic' (their statements: Qxb6605203aTotals.lean).
  GIVEN WITH THE SEED: the statements are not yours to turn. If you find one false, say at which input.
  Laid BY PROGRAM, IN A SANDBOX (cutbox-rows.mjs): the forced cells as the released guide's own fill.sh prints them over the translation a9207cba929c3c55… (all of the seat's roots in one cut). By AI agents, Wed Nov 11 2026. No macro, syntax, notation, axiom, sorry.
-/
import Derived.Test.Qxb6605203aChecked
import GoSem.Claim
import GoSem.ClaimJoined
import GoSem.ClaimMapViews
import Derived.JoinedTies
import Derived.KernelRfl
namespace Go.Proofs.Qxb6605203a
/- THE CELL 'sum', in the pinned program and in every row, IS THE sha256 OF THE DUMP (.gsa) THAT Qxb6605203aProg.lean LOADS. Nothing in Lean hashes anything: it is a label: what it is worth is what the hold of that sum in a sandbox is worth. -/
noncomputable def Try.pinned : Pinned := { name := "qxb6605203a", sum := "a9207cba929c3c55078718a70ab4dd6ce86a86e16f68ebb29334a6a755c47fad", checked := Try.checked }
namespace Rows
def none {H : Type} : Left H := { results := [], args := [] }

/-- 'zzlaws_internal_engine_b1.FnCompatibleMatchesLockMatrix': WHATEVER THE INPUT: true; the input reads as it did. -/
def fnCompatibleMatchesLockMatrixSpec : ChangeSpec := { name := "fnCompatibleMatchesLockMatrix", fn := fun _ => fun
  | [d1, d2] => { results := [.lit (.bool true)], args := [d1, d2] }
  | _ => none }
def fnCompatibleMatchesLockMatrixRow : OpenClaim := { program := "qxb6605203a", sum := "a9207cba929c3c55078718a70ab4dd6ce86a86e16f68ebb29334a6a755c47fad", func := "example.com/isolith/isolith/zzlaws_internal_engine_b1.FnCompatibleMatchesLockMatrix", spec := "fnCompatibleMatchesLockMatrix", apart := false }
def FnCompatibleMatchesLockMatrixSaid : Prop := fnCompatibleMatchesLockMatrixRow.holds Try.pinned (OpenSpec.ofChange fnCompatibleMatchesLockMatrixSpec)

/-- ITS FALSE NEIGHBOUR: 'it returns false'. Refute it at one input. -/
def fnCompatibleMatchesLockMatrixWrong : ChangeSpec := { name := "fnCompatibleMatchesLockMatrix", fn := fun _ => fun
  | [d1, d2] => { results := [.lit (.bool false)], args := [d1, d2] }
  | _ => none }
def FnCompatibleMatchesLockMatrixWrongFalsely : Prop := fnCompatibleMatchesLockMatrixRow.holds Try.pinned (OpenSpec.ofChange fnCompatibleMatchesLockMatrixWrong)

/-- 'zzlaws_internal_engine_b1.FnCompatibleSymmetricAndStrongerCoversLess': WHATEVER THE INPUT: true; the input reads as it did. -/
def fnCompatibleSymmetricAndStrongerCoversLessSpec : ChangeSpec := { name := "fnCompatibleSymmetricAndStrongerCoversLess", fn := fun _ => fun
  | [d1, d2, d3] => { results := [.lit (.bool true)], args := [d1, d2, d3] }
  | _ => none }
def fnCompatibleSymmetricAndStrongerCoversLessRow : OpenClaim := { program := "qxb6605203a", sum := "a9207cba929c3c55078718a70ab4dd6ce86a86e16f68ebb29334a6a755c47fad", func := "example.com/isolith/isolith/zzlaws_internal_engine_b1.FnCompatibleSymmetricAndStrongerCoversLess", spec := "fnCompatibleSymmetricAndStrongerCoversLess", apart := false }
def FnCompatibleSymmetricAndStrongerCoversLessSaid : Prop := fnCompatibleSymmetricAndStrongerCoversLessRow.holds Try.pinned (OpenSpec.ofChange fnCompatibleSymmetricAndStrongerCoversLessSpec)

/-- ITS FALSE NEIGHBOUR: 'it returns false'. Refute it at one input. -/
def fnCompatibleSymmetricAndStrongerCoversLessWrong : ChangeSpec := { name := "fnCompatibleSymmetricAndStrongerCoversLess", fn := fun _ => fun
  | [d1, d2, d3] => { results := [.lit (.bool false)], args := [d1, d2, d3] }
  | _ => none }
def FnCompatibleSymmetricAndStrongerCoversLessWrongFalsely : Prop := fnCompatibleSymmetricAndStrongerCoversLessRow.holds Try.pinned (OpenSpec.ofChange fnCompatibleSymmetricAndStrongerCoversLessWrong)

/-- 'zzlaws_internal_engine_b1.FnArithTypeMatchesDialectRules': WHATEVER THE INPUT: true; the input reads as it did. -/
def fnArithTypeMatchesDialectRulesSpec : ChangeSpec := { name := "fnArithTypeMatchesDialectRules", fn := fun _ => fun
  | [d1, d2, d3, d4, d5] => { results := [.lit (.bool true)], args := [d1, d2, d3, d4, d5] }
  | _ => none }
def fnArithTypeMatchesDialectRulesRow : OpenClaim := { program := "qxb6605203a", sum := "a9207cba929c3c55078718a70ab4dd6ce86a86e16f68ebb29334a6a755c47fad", func := "example.com/isolith/isolith/zzlaws_internal_engine_b1.FnArithTypeMatchesDialectRules", spec := "fnArithTypeMatchesDialectRules", apart := false }
def FnArithTypeMatchesDialectRulesSaid : Prop := fnArithTypeMatchesDialectRulesRow.holds Try.pinned (OpenSpec.ofChange fnArithTypeMatchesDialectRulesSpec)

/-- ITS FALSE NEIGHBOUR: 'it returns false'. Refute it at one input. -/
def fnArithTypeMatchesDialectRulesWrong : ChangeSpec := { name := "fnArithTypeMatchesDialectRules", fn := fun _ => fun
  | [d1, d2, d3, d4, d5] => { results := [.lit (.bool false)], args := [d1, d2, d3, d4, d5] }
  | _ => none }
def FnArithTypeMatchesDialectRulesWrongFalsely : Prop := fnArithTypeMatchesDialectRulesRow.holds Try.pinned (OpenSpec.ofChange fnArithTypeMatchesDialectRulesWrong)

/-- 'zzlaws_internal_engine_b1.FnArithTypeIsValidSymmetricAndKeepsRoom': WHATEVER THE INPUT: true; the input reads as it did. -/
def fnArithTypeIsValidSymmetricAndKeepsRoomSpec : ChangeSpec := { name := "fnArithTypeIsValidSymmetricAndKeepsRoom", fn := fun _ => fun
  | [d1, d2, d3, d4, d5] => { results := [.lit (.bool true)], args := [d1, d2, d3, d4, d5] }
  | _ => none }
def fnArithTypeIsValidSymmetricAndKeepsRoomRow : OpenClaim := { program := "qxb6605203a", sum := "a9207cba929c3c55078718a70ab4dd6ce86a86e16f68ebb29334a6a755c47fad", func := "example.com/isolith/isolith/zzlaws_internal_engine_b1.FnArithTypeIsValidSymmetricAndKeepsRoom", spec := "fnArithTypeIsValidSymmetricAndKeepsRoom", apart := false }
def FnArithTypeIsValidSymmetricAndKeepsRoomSaid : Prop := fnArithTypeIsValidSymmetricAndKeepsRoomRow.holds Try.pinned (OpenSpec.ofChange fnArithTypeIsValidSymmetricAndKeepsRoomSpec)

/-- ITS FALSE NEIGHBOUR: 'it returns false'. Refute it at one input. -/
def fnArithTypeIsValidSymmetricAndKeepsRoomWrong : ChangeSpec := { name := "fnArithTypeIsValidSymmetricAndKeepsRoom", fn := fun _ => fun
  | [d1, d2, d3, d4, d5] => { results := [.lit (.bool false)], args := [d1, d2, d3, d4, d5] }
  | _ => none }
def FnArithTypeIsValidSymmetricAndKeepsRoomWrongFalsely : Prop := fnArithTypeIsValidSymmetricAndKeepsRoomRow.holds Try.pinned (OpenSpec.ofChange fnArithTypeIsValidSymmetricAndKeepsRoomWrong)

end Rows
end Go.Proofs.Qxb6605203a
