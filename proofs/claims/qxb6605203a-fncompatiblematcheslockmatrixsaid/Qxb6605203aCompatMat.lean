import Derived.Test.Qxb6605203aCompat
import Derived.RowKit3
namespace Go.Proofs.Qxb6605203a.Compat
open Go.RowKit
set_option linter.unusedVariables false

set_option maxHeartbeats 1000000 in
theorem mat_far (a b : Int) (h : 7 < a ∨ 7 < b) (w : World) :
    Calls Try.prog 3 #[.int .u8 a, .int .u8 b] w fun e w' => e = .returned (.bool true) ∧ Grown w w' := by
  by_cases g1 : 7 < a
  · go_enter Try.func3, Try.ntmps3
    go_wp2_with (first | (go_at_call 8; refine (cmp_any _ _ _).mono ?_; rintro e w' ⟨rfl, rfl⟩) | go_in)
    go_ret
    exact ⟨rfl, Grown.refl _⟩
  · have g2 : 7 < b := by omega
    go_enter Try.func3, Try.ntmps3
    go_wp2_with (first | (go_at_call 8; refine (cmp_any _ _ _).mono ?_; rintro e w' ⟨rfl, rfl⟩) | go_in)
    go_ret
    exact ⟨rfl, Grown.refl _⟩

set_option maxHeartbeats 2000000 in
theorem mat_0 (b : Int) (b0 : 0 ≤ b) (b7 : b ≤ 7) (w : World) :
    Calls Try.prog 3 #[.int .u8 0, .int .u8 b] w fun e w' => e = .returned (.bool true) ∧ Grown w w' := by
  rcases eight b0 b7 with rfl | rfl | rfl | rfl | rfl | rfl | rfl | rfl
  · have e1 : cmp 0 0 = true := by decide
    go_enter Try.func3, Try.ntmps3
    go_wp2_with (first | (go_at_call 8; refine (cmp_any _ _ _).mono ?_; rintro e w' ⟨rfl, rfl⟩) | go_in)
    go_ret
    exact ⟨rfl, Grown.refl _⟩
  · have e1 : cmp 0 1 = true := by decide
    go_enter Try.func3, Try.ntmps3
    go_wp2_with (first | (go_at_call 8; refine (cmp_any _ _ _).mono ?_; rintro e w' ⟨rfl, rfl⟩) | go_in)
    go_ret
    exact ⟨rfl, Grown.refl _⟩
  · have e1 : cmp 0 2 = true := by decide
    go_enter Try.func3, Try.ntmps3
    go_wp2_with (first | (go_at_call 8; refine (cmp_any _ _ _).mono ?_; rintro e w' ⟨rfl, rfl⟩) | go_in)
    go_ret
    exact ⟨rfl, Grown.refl _⟩
  · have e1 : cmp 0 3 = true := by decide
    go_enter Try.func3, Try.ntmps3
    go_wp2_with (first | (go_at_call 8; refine (cmp_any _ _ _).mono ?_; rintro e w' ⟨rfl, rfl⟩) | go_in)
    go_ret
    exact ⟨rfl, Grown.refl _⟩
  · have e1 : cmp 0 4 = true := by decide
    go_enter Try.func3, Try.ntmps3
    go_wp2_with (first | (go_at_call 8; refine (cmp_any _ _ _).mono ?_; rintro e w' ⟨rfl, rfl⟩) | go_in)
    go_ret
    exact ⟨rfl, Grown.refl _⟩
  · have e1 : cmp 0 5 = true := by decide
    go_enter Try.func3, Try.ntmps3
    go_wp2_with (first | (go_at_call 8; refine (cmp_any _ _ _).mono ?_; rintro e w' ⟨rfl, rfl⟩) | go_in)
    go_ret
    exact ⟨rfl, Grown.refl _⟩
  · have e1 : cmp 0 6 = true := by decide
    go_enter Try.func3, Try.ntmps3
    go_wp2_with (first | (go_at_call 8; refine (cmp_any _ _ _).mono ?_; rintro e w' ⟨rfl, rfl⟩) | go_in)
    go_ret
    exact ⟨rfl, Grown.refl _⟩
  · have e1 : cmp 0 7 = true := by decide
    go_enter Try.func3, Try.ntmps3
    go_wp2_with (first | (go_at_call 8; refine (cmp_any _ _ _).mono ?_; rintro e w' ⟨rfl, rfl⟩) | go_in)
    go_ret
    exact ⟨rfl, Grown.refl _⟩

set_option maxHeartbeats 2000000 in
theorem mat_1 (b : Int) (b0 : 0 ≤ b) (b7 : b ≤ 7) (w : World) :
    Calls Try.prog 3 #[.int .u8 1, .int .u8 b] w fun e w' => e = .returned (.bool true) ∧ Grown w w' := by
  rcases eight b0 b7 with rfl | rfl | rfl | rfl | rfl | rfl | rfl | rfl
  · have e1 : cmp 1 0 = true := by decide
    go_enter Try.func3, Try.ntmps3
    go_wp2_with (first | (go_at_call 8; refine (cmp_any _ _ _).mono ?_; rintro e w' ⟨rfl, rfl⟩) | go_in)
    go_ret
    exact ⟨rfl, Grown.refl _⟩
  · have e1 : cmp 1 1 = true := by decide
    go_enter Try.func3, Try.ntmps3
    go_wp2_with (first | (go_at_call 8; refine (cmp_any _ _ _).mono ?_; rintro e w' ⟨rfl, rfl⟩) | go_in)
    go_ret
    exact ⟨rfl, Grown.refl _⟩
  · have e1 : cmp 1 2 = true := by decide
    go_enter Try.func3, Try.ntmps3
    go_wp2_with (first | (go_at_call 8; refine (cmp_any _ _ _).mono ?_; rintro e w' ⟨rfl, rfl⟩) | go_in)
    go_ret
    exact ⟨rfl, Grown.refl _⟩
  · have e1 : cmp 1 3 = false := by decide
    go_enter Try.func3, Try.ntmps3
    go_wp2_with (first | (go_at_call 8; refine (cmp_any _ _ _).mono ?_; rintro e w' ⟨rfl, rfl⟩) | go_in)
    go_ret
    exact ⟨rfl, Grown.refl _⟩
  · have e1 : cmp 1 4 = true := by decide
    go_enter Try.func3, Try.ntmps3
    go_wp2_with (first | (go_at_call 8; refine (cmp_any _ _ _).mono ?_; rintro e w' ⟨rfl, rfl⟩) | go_in)
    go_ret
    exact ⟨rfl, Grown.refl _⟩
  · have e1 : cmp 1 5 = false := by decide
    go_enter Try.func3, Try.ntmps3
    go_wp2_with (first | (go_at_call 8; refine (cmp_any _ _ _).mono ?_; rintro e w' ⟨rfl, rfl⟩) | go_in)
    go_ret
    exact ⟨rfl, Grown.refl _⟩
  · have e1 : cmp 1 6 = false := by decide
    go_enter Try.func3, Try.ntmps3
    go_wp2_with (first | (go_at_call 8; refine (cmp_any _ _ _).mono ?_; rintro e w' ⟨rfl, rfl⟩) | go_in)
    go_ret
    exact ⟨rfl, Grown.refl _⟩
  · have e1 : cmp 1 7 = false := by decide
    go_enter Try.func3, Try.ntmps3
    go_wp2_with (first | (go_at_call 8; refine (cmp_any _ _ _).mono ?_; rintro e w' ⟨rfl, rfl⟩) | go_in)
    go_ret
    exact ⟨rfl, Grown.refl _⟩

set_option maxHeartbeats 2000000 in
theorem mat_2 (b : Int) (b0 : 0 ≤ b) (b7 : b ≤ 7) (w : World) :
    Calls Try.prog 3 #[.int .u8 2, .int .u8 b] w fun e w' => e = .returned (.bool true) ∧ Grown w w' := by
  rcases eight b0 b7 with rfl | rfl | rfl | rfl | rfl | rfl | rfl | rfl
  · have e1 : cmp 2 0 = true := by decide
    go_enter Try.func3, Try.ntmps3
    go_wp2_with (first | (go_at_call 8; refine (cmp_any _ _ _).mono ?_; rintro e w' ⟨rfl, rfl⟩) | go_in)
    go_ret
    exact ⟨rfl, Grown.refl _⟩
  · have e1 : cmp 2 1 = true := by decide
    go_enter Try.func3, Try.ntmps3
    go_wp2_with (first | (go_at_call 8; refine (cmp_any _ _ _).mono ?_; rintro e w' ⟨rfl, rfl⟩) | go_in)
    go_ret
    exact ⟨rfl, Grown.refl _⟩
  · have e1 : cmp 2 2 = false := by decide
    go_enter Try.func3, Try.ntmps3
    go_wp2_with (first | (go_at_call 8; refine (cmp_any _ _ _).mono ?_; rintro e w' ⟨rfl, rfl⟩) | go_in)
    go_ret
    exact ⟨rfl, Grown.refl _⟩
  · have e1 : cmp 2 3 = false := by decide
    go_enter Try.func3, Try.ntmps3
    go_wp2_with (first | (go_at_call 8; refine (cmp_any _ _ _).mono ?_; rintro e w' ⟨rfl, rfl⟩) | go_in)
    go_ret
    exact ⟨rfl, Grown.refl _⟩
  · have e1 : cmp 2 4 = true := by decide
    go_enter Try.func3, Try.ntmps3
    go_wp2_with (first | (go_at_call 8; refine (cmp_any _ _ _).mono ?_; rintro e w' ⟨rfl, rfl⟩) | go_in)
    go_ret
    exact ⟨rfl, Grown.refl _⟩
  · have e1 : cmp 2 5 = false := by decide
    go_enter Try.func3, Try.ntmps3
    go_wp2_with (first | (go_at_call 8; refine (cmp_any _ _ _).mono ?_; rintro e w' ⟨rfl, rfl⟩) | go_in)
    go_ret
    exact ⟨rfl, Grown.refl _⟩
  · have e1 : cmp 2 6 = false := by decide
    go_enter Try.func3, Try.ntmps3
    go_wp2_with (first | (go_at_call 8; refine (cmp_any _ _ _).mono ?_; rintro e w' ⟨rfl, rfl⟩) | go_in)
    go_ret
    exact ⟨rfl, Grown.refl _⟩
  · have e1 : cmp 2 7 = false := by decide
    go_enter Try.func3, Try.ntmps3
    go_wp2_with (first | (go_at_call 8; refine (cmp_any _ _ _).mono ?_; rintro e w' ⟨rfl, rfl⟩) | go_in)
    go_ret
    exact ⟨rfl, Grown.refl _⟩

set_option maxHeartbeats 2000000 in
theorem mat_3 (b : Int) (b0 : 0 ≤ b) (b7 : b ≤ 7) (w : World) :
    Calls Try.prog 3 #[.int .u8 3, .int .u8 b] w fun e w' => e = .returned (.bool true) ∧ Grown w w' := by
  rcases eight b0 b7 with rfl | rfl | rfl | rfl | rfl | rfl | rfl | rfl
  · have e1 : cmp 3 0 = true := by decide
    go_enter Try.func3, Try.ntmps3
    go_wp2_with (first | (go_at_call 8; refine (cmp_any _ _ _).mono ?_; rintro e w' ⟨rfl, rfl⟩) | go_in)
    go_ret
    exact ⟨rfl, Grown.refl _⟩
  · have e1 : cmp 3 1 = false := by decide
    go_enter Try.func3, Try.ntmps3
    go_wp2_with (first | (go_at_call 8; refine (cmp_any _ _ _).mono ?_; rintro e w' ⟨rfl, rfl⟩) | go_in)
    go_ret
    exact ⟨rfl, Grown.refl _⟩
  · have e1 : cmp 3 2 = false := by decide
    go_enter Try.func3, Try.ntmps3
    go_wp2_with (first | (go_at_call 8; refine (cmp_any _ _ _).mono ?_; rintro e w' ⟨rfl, rfl⟩) | go_in)
    go_ret
    exact ⟨rfl, Grown.refl _⟩
  · have e1 : cmp 3 3 = false := by decide
    go_enter Try.func3, Try.ntmps3
    go_wp2_with (first | (go_at_call 8; refine (cmp_any _ _ _).mono ?_; rintro e w' ⟨rfl, rfl⟩) | go_in)
    go_ret
    exact ⟨rfl, Grown.refl _⟩
  · have e1 : cmp 3 4 = true := by decide
    go_enter Try.func3, Try.ntmps3
    go_wp2_with (first | (go_at_call 8; refine (cmp_any _ _ _).mono ?_; rintro e w' ⟨rfl, rfl⟩) | go_in)
    go_ret
    exact ⟨rfl, Grown.refl _⟩
  · have e1 : cmp 3 5 = false := by decide
    go_enter Try.func3, Try.ntmps3
    go_wp2_with (first | (go_at_call 8; refine (cmp_any _ _ _).mono ?_; rintro e w' ⟨rfl, rfl⟩) | go_in)
    go_ret
    exact ⟨rfl, Grown.refl _⟩
  · have e1 : cmp 3 6 = false := by decide
    go_enter Try.func3, Try.ntmps3
    go_wp2_with (first | (go_at_call 8; refine (cmp_any _ _ _).mono ?_; rintro e w' ⟨rfl, rfl⟩) | go_in)
    go_ret
    exact ⟨rfl, Grown.refl _⟩
  · have e1 : cmp 3 7 = false := by decide
    go_enter Try.func3, Try.ntmps3
    go_wp2_with (first | (go_at_call 8; refine (cmp_any _ _ _).mono ?_; rintro e w' ⟨rfl, rfl⟩) | go_in)
    go_ret
    exact ⟨rfl, Grown.refl _⟩

set_option maxHeartbeats 2000000 in
theorem mat_4 (b : Int) (b0 : 0 ≤ b) (b7 : b ≤ 7) (w : World) :
    Calls Try.prog 3 #[.int .u8 4, .int .u8 b] w fun e w' => e = .returned (.bool true) ∧ Grown w w' := by
  rcases eight b0 b7 with rfl | rfl | rfl | rfl | rfl | rfl | rfl | rfl
  · have e1 : cmp 4 0 = true := by decide
    go_enter Try.func3, Try.ntmps3
    go_wp2_with (first | (go_at_call 8; refine (cmp_any _ _ _).mono ?_; rintro e w' ⟨rfl, rfl⟩) | go_in)
    go_ret
    exact ⟨rfl, Grown.refl _⟩
  · have e1 : cmp 4 1 = true := by decide
    go_enter Try.func3, Try.ntmps3
    go_wp2_with (first | (go_at_call 8; refine (cmp_any _ _ _).mono ?_; rintro e w' ⟨rfl, rfl⟩) | go_in)
    go_ret
    exact ⟨rfl, Grown.refl _⟩
  · have e1 : cmp 4 2 = true := by decide
    go_enter Try.func3, Try.ntmps3
    go_wp2_with (first | (go_at_call 8; refine (cmp_any _ _ _).mono ?_; rintro e w' ⟨rfl, rfl⟩) | go_in)
    go_ret
    exact ⟨rfl, Grown.refl _⟩
  · have e1 : cmp 4 3 = true := by decide
    go_enter Try.func3, Try.ntmps3
    go_wp2_with (first | (go_at_call 8; refine (cmp_any _ _ _).mono ?_; rintro e w' ⟨rfl, rfl⟩) | go_in)
    go_ret
    exact ⟨rfl, Grown.refl _⟩
  · have e1 : cmp 4 4 = true := by decide
    go_enter Try.func3, Try.ntmps3
    go_wp2_with (first | (go_at_call 8; refine (cmp_any _ _ _).mono ?_; rintro e w' ⟨rfl, rfl⟩) | go_in)
    go_ret
    exact ⟨rfl, Grown.refl _⟩
  · have e1 : cmp 4 5 = false := by decide
    go_enter Try.func3, Try.ntmps3
    go_wp2_with (first | (go_at_call 8; refine (cmp_any _ _ _).mono ?_; rintro e w' ⟨rfl, rfl⟩) | go_in)
    go_ret
    exact ⟨rfl, Grown.refl _⟩
  · have e1 : cmp 4 6 = true := by decide
    go_enter Try.func3, Try.ntmps3
    go_wp2_with (first | (go_at_call 8; refine (cmp_any _ _ _).mono ?_; rintro e w' ⟨rfl, rfl⟩) | go_in)
    go_ret
    exact ⟨rfl, Grown.refl _⟩
  · have e1 : cmp 4 7 = true := by decide
    go_enter Try.func3, Try.ntmps3
    go_wp2_with (first | (go_at_call 8; refine (cmp_any _ _ _).mono ?_; rintro e w' ⟨rfl, rfl⟩) | go_in)
    go_ret
    exact ⟨rfl, Grown.refl _⟩

set_option maxHeartbeats 2000000 in
theorem mat_5 (b : Int) (b0 : 0 ≤ b) (b7 : b ≤ 7) (w : World) :
    Calls Try.prog 3 #[.int .u8 5, .int .u8 b] w fun e w' => e = .returned (.bool true) ∧ Grown w w' := by
  rcases eight b0 b7 with rfl | rfl | rfl | rfl | rfl | rfl | rfl | rfl
  · have e1 : cmp 5 0 = true := by decide
    go_enter Try.func3, Try.ntmps3
    go_wp2_with (first | (go_at_call 8; refine (cmp_any _ _ _).mono ?_; rintro e w' ⟨rfl, rfl⟩) | go_in)
    go_ret
    exact ⟨rfl, Grown.refl _⟩
  · have e1 : cmp 5 1 = false := by decide
    go_enter Try.func3, Try.ntmps3
    go_wp2_with (first | (go_at_call 8; refine (cmp_any _ _ _).mono ?_; rintro e w' ⟨rfl, rfl⟩) | go_in)
    go_ret
    exact ⟨rfl, Grown.refl _⟩
  · have e1 : cmp 5 2 = false := by decide
    go_enter Try.func3, Try.ntmps3
    go_wp2_with (first | (go_at_call 8; refine (cmp_any _ _ _).mono ?_; rintro e w' ⟨rfl, rfl⟩) | go_in)
    go_ret
    exact ⟨rfl, Grown.refl _⟩
  · have e1 : cmp 5 3 = false := by decide
    go_enter Try.func3, Try.ntmps3
    go_wp2_with (first | (go_at_call 8; refine (cmp_any _ _ _).mono ?_; rintro e w' ⟨rfl, rfl⟩) | go_in)
    go_ret
    exact ⟨rfl, Grown.refl _⟩
  · have e1 : cmp 5 4 = false := by decide
    go_enter Try.func3, Try.ntmps3
    go_wp2_with (first | (go_at_call 8; refine (cmp_any _ _ _).mono ?_; rintro e w' ⟨rfl, rfl⟩) | go_in)
    go_ret
    exact ⟨rfl, Grown.refl _⟩
  · have e1 : cmp 5 5 = false := by decide
    go_enter Try.func3, Try.ntmps3
    go_wp2_with (first | (go_at_call 8; refine (cmp_any _ _ _).mono ?_; rintro e w' ⟨rfl, rfl⟩) | go_in)
    go_ret
    exact ⟨rfl, Grown.refl _⟩
  · have e1 : cmp 5 6 = false := by decide
    go_enter Try.func3, Try.ntmps3
    go_wp2_with (first | (go_at_call 8; refine (cmp_any _ _ _).mono ?_; rintro e w' ⟨rfl, rfl⟩) | go_in)
    go_ret
    exact ⟨rfl, Grown.refl _⟩
  · have e1 : cmp 5 7 = false := by decide
    go_enter Try.func3, Try.ntmps3
    go_wp2_with (first | (go_at_call 8; refine (cmp_any _ _ _).mono ?_; rintro e w' ⟨rfl, rfl⟩) | go_in)
    go_ret
    exact ⟨rfl, Grown.refl _⟩

set_option maxHeartbeats 2000000 in
theorem mat_6 (b : Int) (b0 : 0 ≤ b) (b7 : b ≤ 7) (w : World) :
    Calls Try.prog 3 #[.int .u8 6, .int .u8 b] w fun e w' => e = .returned (.bool true) ∧ Grown w w' := by
  rcases eight b0 b7 with rfl | rfl | rfl | rfl | rfl | rfl | rfl | rfl
  · have e1 : cmp 6 0 = true := by decide
    go_enter Try.func3, Try.ntmps3
    go_wp2_with (first | (go_at_call 8; refine (cmp_any _ _ _).mono ?_; rintro e w' ⟨rfl, rfl⟩) | go_in)
    go_ret
    exact ⟨rfl, Grown.refl _⟩
  · have e1 : cmp 6 1 = false := by decide
    go_enter Try.func3, Try.ntmps3
    go_wp2_with (first | (go_at_call 8; refine (cmp_any _ _ _).mono ?_; rintro e w' ⟨rfl, rfl⟩) | go_in)
    go_ret
    exact ⟨rfl, Grown.refl _⟩
  · have e1 : cmp 6 2 = false := by decide
    go_enter Try.func3, Try.ntmps3
    go_wp2_with (first | (go_at_call 8; refine (cmp_any _ _ _).mono ?_; rintro e w' ⟨rfl, rfl⟩) | go_in)
    go_ret
    exact ⟨rfl, Grown.refl _⟩
  · have e1 : cmp 6 3 = false := by decide
    go_enter Try.func3, Try.ntmps3
    go_wp2_with (first | (go_at_call 8; refine (cmp_any _ _ _).mono ?_; rintro e w' ⟨rfl, rfl⟩) | go_in)
    go_ret
    exact ⟨rfl, Grown.refl _⟩
  · have e1 : cmp 6 4 = true := by decide
    go_enter Try.func3, Try.ntmps3
    go_wp2_with (first | (go_at_call 8; refine (cmp_any _ _ _).mono ?_; rintro e w' ⟨rfl, rfl⟩) | go_in)
    go_ret
    exact ⟨rfl, Grown.refl _⟩
  · have e1 : cmp 6 5 = false := by decide
    go_enter Try.func3, Try.ntmps3
    go_wp2_with (first | (go_at_call 8; refine (cmp_any _ _ _).mono ?_; rintro e w' ⟨rfl, rfl⟩) | go_in)
    go_ret
    exact ⟨rfl, Grown.refl _⟩
  · have e1 : cmp 6 6 = true := by decide
    go_enter Try.func3, Try.ntmps3
    go_wp2_with (first | (go_at_call 8; refine (cmp_any _ _ _).mono ?_; rintro e w' ⟨rfl, rfl⟩) | go_in)
    go_ret
    exact ⟨rfl, Grown.refl _⟩
  · have e1 : cmp 6 7 = false := by decide
    go_enter Try.func3, Try.ntmps3
    go_wp2_with (first | (go_at_call 8; refine (cmp_any _ _ _).mono ?_; rintro e w' ⟨rfl, rfl⟩) | go_in)
    go_ret
    exact ⟨rfl, Grown.refl _⟩

set_option maxHeartbeats 2000000 in
theorem mat_7 (b : Int) (b0 : 0 ≤ b) (b7 : b ≤ 7) (w : World) :
    Calls Try.prog 3 #[.int .u8 7, .int .u8 b] w fun e w' => e = .returned (.bool true) ∧ Grown w w' := by
  rcases eight b0 b7 with rfl | rfl | rfl | rfl | rfl | rfl | rfl | rfl
  · have e1 : cmp 7 0 = true := by decide
    go_enter Try.func3, Try.ntmps3
    go_wp2_with (first | (go_at_call 8; refine (cmp_any _ _ _).mono ?_; rintro e w' ⟨rfl, rfl⟩) | go_in)
    go_ret
    exact ⟨rfl, Grown.refl _⟩
  · have e1 : cmp 7 1 = false := by decide
    go_enter Try.func3, Try.ntmps3
    go_wp2_with (first | (go_at_call 8; refine (cmp_any _ _ _).mono ?_; rintro e w' ⟨rfl, rfl⟩) | go_in)
    go_ret
    exact ⟨rfl, Grown.refl _⟩
  · have e1 : cmp 7 2 = false := by decide
    go_enter Try.func3, Try.ntmps3
    go_wp2_with (first | (go_at_call 8; refine (cmp_any _ _ _).mono ?_; rintro e w' ⟨rfl, rfl⟩) | go_in)
    go_ret
    exact ⟨rfl, Grown.refl _⟩
  · have e1 : cmp 7 3 = false := by decide
    go_enter Try.func3, Try.ntmps3
    go_wp2_with (first | (go_at_call 8; refine (cmp_any _ _ _).mono ?_; rintro e w' ⟨rfl, rfl⟩) | go_in)
    go_ret
    exact ⟨rfl, Grown.refl _⟩
  · have e1 : cmp 7 4 = true := by decide
    go_enter Try.func3, Try.ntmps3
    go_wp2_with (first | (go_at_call 8; refine (cmp_any _ _ _).mono ?_; rintro e w' ⟨rfl, rfl⟩) | go_in)
    go_ret
    exact ⟨rfl, Grown.refl _⟩
  · have e1 : cmp 7 5 = false := by decide
    go_enter Try.func3, Try.ntmps3
    go_wp2_with (first | (go_at_call 8; refine (cmp_any _ _ _).mono ?_; rintro e w' ⟨rfl, rfl⟩) | go_in)
    go_ret
    exact ⟨rfl, Grown.refl _⟩
  · have e1 : cmp 7 6 = false := by decide
    go_enter Try.func3, Try.ntmps3
    go_wp2_with (first | (go_at_call 8; refine (cmp_any _ _ _).mono ?_; rintro e w' ⟨rfl, rfl⟩) | go_in)
    go_ret
    exact ⟨rfl, Grown.refl _⟩
  · have e1 : cmp 7 7 = true := by decide
    go_enter Try.func3, Try.ntmps3
    go_wp2_with (first | (go_at_call 8; refine (cmp_any _ _ _).mono ?_; rintro e w' ⟨rfl, rfl⟩) | go_in)
    go_ret
    exact ⟨rfl, Grown.refl _⟩

theorem mat_law (a b : Int) (a0 : 0 ≤ a) (b0 : 0 ≤ b) (w : World) :
    Calls Try.prog 3 #[.int .u8 a, .int .u8 b] w fun e w' => e = .returned (.bool true) ∧ Grown w w' := by
  by_cases h : 7 < a ∨ 7 < b
  · exact mat_far a b h w
  · have b7 : b ≤ 7 := by omega
    rcases eight a0 (by omega : a ≤ 7) with rfl | rfl | rfl | rfl | rfl | rfl | rfl | rfl
    · exact mat_0 b b0 b7 w
    · exact mat_1 b b0 b7 w
    · exact mat_2 b b0 b7 w
    · exact mat_3 b b0 b7 w
    · exact mat_4 b b0 b7 w
    · exact mat_5 b b0 b7 w
    · exact mat_6 b b0 b7 w
    · exact mat_7 b b0 b7 w

end Go.Proofs.Qxb6605203a.Compat
