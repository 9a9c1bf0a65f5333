import Derived.Test.Qxb6605203aCompat
import Derived.RowKit3
namespace Go.Proofs.Qxb6605203a.Compat
open Go.RowKit
set_option linter.unusedVariables false

theorem cmp_sym (a b : Int) : cmp b a = cmp a b := by
  have e : (b == a) = (a == b) := Bool.beq_comm
  have o : (b == 1 || a == 1) = (a == 1 || b == 1) := Bool.or_comm _ _
  unfold cmp
  rw [e, o]
  repeat' split
  all_goals first | rfl | (exfalso; omega)
theorem cmp_self (a : Int) (h0 : 0 ≤ a) (h1 : a ≤ 7) : cmp a a = (a == 0 || a == 1 || a == 4 || a == 6 || a == 7) := by
  rcases eight h0 h1 with rfl | rfl | rfl | rfl | rfl | rfl | rfl | rfl <;> decide
theorem cmp_five (a : Int) (h0 : 0 ≤ a) (h1 : a ≤ 7) : cmp 5 a = (a == 0) := by
  rcases eight h0 h1 with rfl | rfl | rfl | rfl | rfl | rfl | rfl | rfl <;> decide
theorem cmp_zero (a : Int) : cmp 0 a = true := by simp [cmp]
theorem cmp_row (a b c : Int) (h : 1 ≤ a) (h1 : a ≤ b) (h2 : b ≤ 3) (c0 : 0 ≤ c) (c7 : c ≤ 7) (hb : cmp b c = true) : cmp a c = true := by
  have ha : a = 1 ∨ a = 2 ∨ a = 3 := by omega
  have hb' : b = 1 ∨ b = 2 ∨ b = 3 := by omega
  rcases eight c0 c7 with rfl | rfl | rfl | rfl | rfl | rfl | rfl | rfl <;> rcases ha with rfl | rfl | rfl <;> rcases hb' with rfl | rfl | rfl <;> first | rfl | (exfalso; omega) | (exact absurd hb (by decide))
theorem cmp_schema (a b c : Int) (h : 4 ≤ a) (h1 : a ≤ b) (h2 : b ≤ 5) (c0 : 0 ≤ c) (c7 : c ≤ 7) (hb : cmp b c = true) : cmp a c = true := by
  have ha : a = 4 ∨ a = 5 := by omega
  have hb' : b = 4 ∨ b = 5 := by omega
  rcases eight c0 c7 with rfl | rfl | rfl | rfl | rfl | rfl | rfl | rfl <;> rcases ha with rfl | rfl <;> rcases hb' with rfl | rfl <;> first | rfl | (exfalso; omega) | (exact absurd hb (by decide))

set_option maxHeartbeats 1000000 in
theorem sym_far (a b c : Int) (h : 7 < a ∨ 7 < b ∨ 7 < c) (w : World) :
    Calls Try.prog 4 #[.int .u8 a, .int .u8 b, .int .u8 c] w fun e w' => e = .returned (.bool true) ∧ Grown w w' := by
  by_cases g1 : 7 < a
  · go_enter Try.func4, Try.ntmps4
    go_wp2_with (go_at_call 8; refine (cmp_any _ _ _).mono ?_; rintro e w' ⟨rfl, rfl⟩)
    go_ret
    exact ⟨rfl, Grown.refl _⟩
  · by_cases g2 : 7 < b
    · go_enter Try.func4, Try.ntmps4
      go_wp2_with (go_at_call 8; refine (cmp_any _ _ _).mono ?_; rintro e w' ⟨rfl, rfl⟩)
      go_ret
      exact ⟨rfl, Grown.refl _⟩
    · have g3 : 7 < c := by omega
      go_enter Try.func4, Try.ntmps4
      go_wp2_with (go_at_call 8; refine (cmp_any _ _ _).mono ?_; rintro e w' ⟨rfl, rfl⟩)
      go_ret
      exact ⟨rfl, Grown.refl _⟩

set_option maxHeartbeats 2000000 in
theorem sym_0 (b c : Int) (b0 : 0 ≤ b) (b7 : b ≤ 7) (c0 : 0 ≤ c) (c7 : c ≤ 7) (w : World) :
    Calls Try.prog 4 #[.int .u8 0, .int .u8 b, .int .u8 c] w fun e w' => e = .returned (.bool true) ∧ Grown w w' := by
  have e1 : cmp b 0 = cmp 0 b := cmp_sym _ _
  have e2 : cmp 0 0 = true := cmp_zero _
  have e3 : cmp 0 0 = true := by decide
  have e4 : cmp 5 0 = true := by decide
  have e5 : cmp 0 0 = true := by decide
  go_enter Try.func4, Try.ntmps4
  go_wp2_with (go_at_call 8; refine (cmp_any _ _ _).mono ?_; rintro e w' ⟨rfl, rfl⟩)
  go_ret
  exact ⟨rfl, Grown.refl _⟩

set_option maxHeartbeats 2000000 in
theorem sym_1 (b c : Int) (b0 : 0 ≤ b) (b7 : b ≤ 7) (c0 : 0 ≤ c) (c7 : c ≤ 7) (w : World) :
    Calls Try.prog 4 #[.int .u8 1, .int .u8 b, .int .u8 c] w fun e w' => e = .returned (.bool true) ∧ Grown w w' := by
  have e1 : cmp b 1 = cmp 1 b := cmp_sym _ _
  have e2 : cmp 0 1 = true := cmp_zero _
  have e3 : cmp 1 0 = true := by decide
  have e4 : cmp 5 1 = false := by decide
  have e5 : cmp 1 1 = true := by decide
  by_cases hl : 1 ≤ b
  · by_cases hu : b ≤ 3
    · have hh := cmp_row 1 b c (by omega) hl hu c0 c7
      by_cases hbc : cmp b c = true
      · have hac := hh hbc
        clear hh
        go_enter Try.func4, Try.ntmps4
        go_wp2_with (go_at_call 8; refine (cmp_any _ _ _).mono ?_; rintro e w' ⟨rfl, rfl⟩)
        go_ret
        exact ⟨rfl, Grown.refl _⟩
      · have hbc : cmp b c = false := by simpa using hbc
        clear hh
        go_enter Try.func4, Try.ntmps4
        go_wp2_with (go_at_call 8; refine (cmp_any _ _ _).mono ?_; rintro e w' ⟨rfl, rfl⟩)
        go_ret
        exact ⟨rfl, Grown.refl _⟩
    · go_enter Try.func4, Try.ntmps4
      go_wp2_with (go_at_call 8; refine (cmp_any _ _ _).mono ?_; rintro e w' ⟨rfl, rfl⟩)
      go_ret
      exact ⟨rfl, Grown.refl _⟩
  · go_enter Try.func4, Try.ntmps4
    go_wp2_with (go_at_call 8; refine (cmp_any _ _ _).mono ?_; rintro e w' ⟨rfl, rfl⟩)
    go_ret
    exact ⟨rfl, Grown.refl _⟩

set_option maxHeartbeats 2000000 in
theorem sym_2 (b c : Int) (b0 : 0 ≤ b) (b7 : b ≤ 7) (c0 : 0 ≤ c) (c7 : c ≤ 7) (w : World) :
    Calls Try.prog 4 #[.int .u8 2, .int .u8 b, .int .u8 c] w fun e w' => e = .returned (.bool true) ∧ Grown w w' := by
  have e1 : cmp b 2 = cmp 2 b := cmp_sym _ _
  have e2 : cmp 0 2 = true := cmp_zero _
  have e3 : cmp 2 0 = true := by decide
  have e4 : cmp 5 2 = false := by decide
  have e5 : cmp 2 2 = false := by decide
  by_cases hl : 2 ≤ b
  · by_cases hu : b ≤ 3
    · have hh := cmp_row 2 b c (by omega) hl hu c0 c7
      by_cases hbc : cmp b c = true
      · have hac := hh hbc
        clear hh
        go_enter Try.func4, Try.ntmps4
        go_wp2_with (go_at_call 8; refine (cmp_any _ _ _).mono ?_; rintro e w' ⟨rfl, rfl⟩)
        go_ret
        exact ⟨rfl, Grown.refl _⟩
      · have hbc : cmp b c = false := by simpa using hbc
        clear hh
        go_enter Try.func4, Try.ntmps4
        go_wp2_with (go_at_call 8; refine (cmp_any _ _ _).mono ?_; rintro e w' ⟨rfl, rfl⟩)
        go_ret
        exact ⟨rfl, Grown.refl _⟩
    · go_enter Try.func4, Try.ntmps4
      go_wp2_with (go_at_call 8; refine (cmp_any _ _ _).mono ?_; rintro e w' ⟨rfl, rfl⟩)
      go_ret
      exact ⟨rfl, Grown.refl _⟩
  · go_enter Try.func4, Try.ntmps4
    go_wp2_with (go_at_call 8; refine (cmp_any _ _ _).mono ?_; rintro e w' ⟨rfl, rfl⟩)
    go_ret
    exact ⟨rfl, Grown.refl _⟩

set_option maxHeartbeats 2000000 in
theorem sym_3 (b c : Int) (b0 : 0 ≤ b) (b7 : b ≤ 7) (c0 : 0 ≤ c) (c7 : c ≤ 7) (w : World) :
    Calls Try.prog 4 #[.int .u8 3, .int .u8 b, .int .u8 c] w fun e w' => e = .returned (.bool true) ∧ Grown w w' := by
  have e1 : cmp b 3 = cmp 3 b := cmp_sym _ _
  have e2 : cmp 0 3 = true := cmp_zero _
  have e3 : cmp 3 0 = true := by decide
  have e4 : cmp 5 3 = false := by decide
  have e5 : cmp 3 3 = false := by decide
  by_cases hl : 3 ≤ b
  · by_cases hu : b ≤ 3
    · have hh := cmp_row 3 b c (by omega) hl hu c0 c7
      by_cases hbc : cmp b c = true
      · have hac := hh hbc
        clear hh
        go_enter Try.func4, Try.ntmps4
        go_wp2_with (go_at_call 8; refine (cmp_any _ _ _).mono ?_; rintro e w' ⟨rfl, rfl⟩)
        go_ret
        exact ⟨rfl, Grown.refl _⟩
      · have hbc : cmp b c = false := by simpa using hbc
        clear hh
        go_enter Try.func4, Try.ntmps4
        go_wp2_with (go_at_call 8; refine (cmp_any _ _ _).mono ?_; rintro e w' ⟨rfl, rfl⟩)
        go_ret
        exact ⟨rfl, Grown.refl _⟩
    · go_enter Try.func4, Try.ntmps4
      go_wp2_with (go_at_call 8; refine (cmp_any _ _ _).mono ?_; rintro e w' ⟨rfl, rfl⟩)
      go_ret
      exact ⟨rfl, Grown.refl _⟩
  · go_enter Try.func4, Try.ntmps4
    go_wp2_with (go_at_call 8; refine (cmp_any _ _ _).mono ?_; rintro e w' ⟨rfl, rfl⟩)
    go_ret
    exact ⟨rfl, Grown.refl _⟩

set_option maxHeartbeats 2000000 in
theorem sym_4 (b c : Int) (b0 : 0 ≤ b) (b7 : b ≤ 7) (c0 : 0 ≤ c) (c7 : c ≤ 7) (w : World) :
    Calls Try.prog 4 #[.int .u8 4, .int .u8 b, .int .u8 c] w fun e w' => e = .returned (.bool true) ∧ Grown w w' := by
  have e1 : cmp b 4 = cmp 4 b := cmp_sym _ _
  have e2 : cmp 0 4 = true := cmp_zero _
  have e3 : cmp 4 0 = true := by decide
  have e4 : cmp 5 4 = false := by decide
  have e5 : cmp 4 4 = true := by decide
  by_cases hl : 4 ≤ b
  · by_cases hu : b ≤ 5
    · have hh := cmp_schema 4 b c (by omega) hl hu c0 c7
      by_cases hbc : cmp b c = true
      · have hac := hh hbc
        clear hh
        go_enter Try.func4, Try.ntmps4
        go_wp2_with (go_at_call 8; refine (cmp_any _ _ _).mono ?_; rintro e w' ⟨rfl, rfl⟩)
        go_ret
        exact ⟨rfl, Grown.refl _⟩
      · have hbc : cmp b c = false := by simpa using hbc
        clear hh
        go_enter Try.func4, Try.ntmps4
        go_wp2_with (go_at_call 8; refine (cmp_any _ _ _).mono ?_; rintro e w' ⟨rfl, rfl⟩)
        go_ret
        exact ⟨rfl, Grown.refl _⟩
    · go_enter Try.func4, Try.ntmps4
      go_wp2_with (go_at_call 8; refine (cmp_any _ _ _).mono ?_; rintro e w' ⟨rfl, rfl⟩)
      go_ret
      exact ⟨rfl, Grown.refl _⟩
  · go_enter Try.func4, Try.ntmps4
    go_wp2_with (go_at_call 8; refine (cmp_any _ _ _).mono ?_; rintro e w' ⟨rfl, rfl⟩)
    go_ret
    exact ⟨rfl, Grown.refl _⟩

set_option maxHeartbeats 2000000 in
theorem sym_5 (b c : Int) (b0 : 0 ≤ b) (b7 : b ≤ 7) (c0 : 0 ≤ c) (c7 : c ≤ 7) (w : World) :
    Calls Try.prog 4 #[.int .u8 5, .int .u8 b, .int .u8 c] w fun e w' => e = .returned (.bool true) ∧ Grown w w' := by
  have e1 : cmp b 5 = cmp 5 b := cmp_sym _ _
  have e2 : cmp 0 5 = true := cmp_zero _
  have e3 : cmp 5 0 = true := by decide
  have e4 : cmp 5 5 = false := by decide
  have e5 : cmp 5 5 = false := by decide
  by_cases hl : 5 ≤ b
  · by_cases hu : b ≤ 5
    · have hh := cmp_schema 5 b c (by omega) hl hu c0 c7
      by_cases hbc : cmp b c = true
      · have hac := hh hbc
        clear hh
        go_enter Try.func4, Try.ntmps4
        go_wp2_with (go_at_call 8; refine (cmp_any _ _ _).mono ?_; rintro e w' ⟨rfl, rfl⟩)
        go_ret
        exact ⟨rfl, Grown.refl _⟩
      · have hbc : cmp b c = false := by simpa using hbc
        clear hh
        go_enter Try.func4, Try.ntmps4
        go_wp2_with (go_at_call 8; refine (cmp_any _ _ _).mono ?_; rintro e w' ⟨rfl, rfl⟩)
        go_ret
        exact ⟨rfl, Grown.refl _⟩
    · go_enter Try.func4, Try.ntmps4
      go_wp2_with (go_at_call 8; refine (cmp_any _ _ _).mono ?_; rintro e w' ⟨rfl, rfl⟩)
      go_ret
      exact ⟨rfl, Grown.refl _⟩
  · go_enter Try.func4, Try.ntmps4
    go_wp2_with (go_at_call 8; refine (cmp_any _ _ _).mono ?_; rintro e w' ⟨rfl, rfl⟩)
    go_ret
    exact ⟨rfl, Grown.refl _⟩

set_option maxHeartbeats 2000000 in
theorem sym_6 (b c : Int) (b0 : 0 ≤ b) (b7 : b ≤ 7) (c0 : 0 ≤ c) (c7 : c ≤ 7) (w : World) :
    Calls Try.prog 4 #[.int .u8 6, .int .u8 b, .int .u8 c] w fun e w' => e = .returned (.bool true) ∧ Grown w w' := by
  have e1 : cmp b 6 = cmp 6 b := cmp_sym _ _
  have e2 : cmp 0 6 = true := cmp_zero _
  have e3 : cmp 6 0 = true := by decide
  have e4 : cmp 5 6 = false := by decide
  have e5 : cmp 6 6 = true := by decide
  go_enter Try.func4, Try.ntmps4
  go_wp2_with (go_at_call 8; refine (cmp_any _ _ _).mono ?_; rintro e w' ⟨rfl, rfl⟩)
  go_ret
  exact ⟨rfl, Grown.refl _⟩

set_option maxHeartbeats 2000000 in
theorem sym_7 (b c : Int) (b0 : 0 ≤ b) (b7 : b ≤ 7) (c0 : 0 ≤ c) (c7 : c ≤ 7) (w : World) :
    Calls Try.prog 4 #[.int .u8 7, .int .u8 b, .int .u8 c] w fun e w' => e = .returned (.bool true) ∧ Grown w w' := by
  have e1 : cmp b 7 = cmp 7 b := cmp_sym _ _
  have e2 : cmp 0 7 = true := cmp_zero _
  have e3 : cmp 7 0 = true := by decide
  have e4 : cmp 5 7 = false := by decide
  have e5 : cmp 7 7 = true := by decide
  go_enter Try.func4, Try.ntmps4
  go_wp2_with (go_at_call 8; refine (cmp_any _ _ _).mono ?_; rintro e w' ⟨rfl, rfl⟩)
  go_ret
  exact ⟨rfl, Grown.refl _⟩

theorem sym_law (a b c : Int) (a0 : 0 ≤ a) (b0 : 0 ≤ b) (c0 : 0 ≤ c) (w : World) :
    Calls Try.prog 4 #[.int .u8 a, .int .u8 b, .int .u8 c] w fun e w' => e = .returned (.bool true) ∧ Grown w w' := by
  by_cases h : 7 < a ∨ 7 < b ∨ 7 < c
  · exact sym_far a b c h w
  · have b7 : b ≤ 7 := by omega
    have c7 : c ≤ 7 := by omega
    rcases eight a0 (by omega : a ≤ 7) with rfl | rfl | rfl | rfl | rfl | rfl | rfl | rfl
    · exact sym_0 b c b0 b7 c0 c7 w
    · exact sym_1 b c b0 b7 c0 c7 w
    · exact sym_2 b c b0 b7 c0 c7 w
    · exact sym_3 b c b0 b7 c0 c7 w
    · exact sym_4 b c b0 b7 c0 c7 w
    · exact sym_5 b c b0 b7 c0 c7 w
    · exact sym_6 b c b0 b7 c0 c7 w
    · exact sym_7 b c b0 b7 c0 c7 w

end Go.Proofs.Qxb6605203a.Compat
