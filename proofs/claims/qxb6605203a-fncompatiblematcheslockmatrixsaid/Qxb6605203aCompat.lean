import Derived.Test.Qxb6605203aRows
import Derived.WalkKit
import Derived.WalkSpells
import Derived.WalkLawsBesides
import Derived.ProofKit
import Derived.Outline
namespace Go.Proofs.Qxb6605203a.Compat
open Go.RowKit
set_option linter.unusedVariables false

/-- the plain function: which two lock modes go together -/
def cmp (a b : Int) : Bool :=
  if a = 0 ∨ b = 0 then true
  else if a = 5 ∨ b = 5 then false
  else if a = 4 ∨ b = 4 then true
  else if a = 6 ∨ a = 7 ∨ b = 6 ∨ b = 7 then (a == b)
  else if a = 3 ∨ b = 3 then false
  else (a == 1 || b == 1)

theorem ret_bool {a b : Bool} (h : a = b) : Ending.returned (.bool a) = .returned (.bool b) := by rw [h]

set_option maxHeartbeats 1000000 in
theorem cmp_any (a b : Int) (w : World) :
    Calls Try.prog 8 #[.int .u8 a, .int .u8 b] w fun e w' => e = .returned (.bool (cmp a b)) ∧ w' = w := by
  go_enter Try.func8, Try.ntmps8
  go_wp2
  all_goals
    go_ret
    refine ⟨ret_bool ?_, rfl⟩
    simp_all [cmp]

theorem eight {a : Int} (h0 : 0 ≤ a) (h1 : a ≤ 7) : a = 0 ∨ a = 1 ∨ a = 2 ∨ a = 3 ∨ a = 4 ∨ a = 5 ∨ a = 6 ∨ a = 7 := by omega

end Go.Proofs.Qxb6605203a.Compat
