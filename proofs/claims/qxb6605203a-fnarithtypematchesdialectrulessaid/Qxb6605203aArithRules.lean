import Derived.Test.Qxb6605203aArithB
namespace Go.Proofs.Qxb6605203a.Arith
open Go.RowKit
set_option linter.unusedVariables false

set_option maxHeartbeats 1000000 in
theorem rules_far (op pa sa pb sb : Int) (w : World) (h : op < 0 ∨ 4 < op ∨ vld pa sa = false ∨ vld pb sb = false) :
    Calls Try.prog 5 #[.int .i64 op, .int .i64 pa, .int .i64 sa, .int .i64 pb, .int .i64 sb] w fun e w' => e = .returned (.bool true) ∧ Grown w w' := by
  by_cases g1 : op < 0
  · go_enter Try.func5, Try.ntmps5
    go_wp2_with fail
    go_ret
    exact ⟨rfl, Grown.refl _⟩
  · by_cases g2 : 4 < op
    · go_enter Try.func5, Try.ntmps5
      go_wp2_with fail
      go_ret
      exact ⟨rfl, Grown.refl _⟩
    · by_cases g3 : vld pa sa = true
      · have g4 : vld pb sb = false := by
          rcases h with h | h | h | h
          · omega
          · omega
          · rw [g3] at h; cases h
          · exact h
        clear h
        go_enter Try.func5, Try.ntmps5
        go_wp2_with (go_at_call 9; refine (vld_any _ _ _).mono ?_; rintro e w' ⟨rfl, rfl⟩)
        go_ret
        exact ⟨rfl, Grown.refl _⟩
      · have g4 : vld pa sa = false := by simpa using g3
        clear h g3
        go_enter Try.func5, Try.ntmps5
        go_wp2_with (go_at_call 9; refine (vld_any _ _ _).mono ?_; rintro e w' ⟨rfl, rfl⟩)
        go_ret
        exact ⟨rfl, Grown.refl _⟩

/-! ### the law's own model of the rules answers the same -/
set_option maxHeartbeats 1000000 in
theorem model_add (op pa sa pb sb : Int) (w : World) (hop : op = 0 ∨ op = 1) (h1 : 1 ≤ pa) (h2 : pa ≤ 38) (h3 : 0 ≤ sa) (h4 : sa ≤ pa) (g1 : 1 ≤ pb) (g2 : pb ≤ 38) (g3 : 0 ≤ sb) (g4 : sb ≤ pb) :
    Calls Try.prog 10 #[.int .i64 op, .int .i64 pa, .int .i64 sa, .int .i64 pb, .int .i64 sb] w fun e w' => e = .returned (.tuple #[.int .i64 (resP op pa sa pb sb), .int .i64 (resS op pa sa pb sb)]) ∧ w' = w := by
  have m1 : mx sa sb ≤ 38 := mx_le (by omega) (by omega)
  have m2 : 0 ≤ mx sa sb := le_mx (by omega) (by omega)
  have m3 : mx (pa - sa) (pb - sb) ≤ 38 := mx_le (by omega) (by omega)
  have m4 : 0 ≤ mx (pa - sa) (pb - sb) := le_mx (by omega) (by omega)
  by_cases h : mx (pa - sa) (pb - sb) + 1 + mx sa sb ≤ 38
  · rw [show resP op pa sa pb sb = mx (pa - sa) (pb - sb) + 1 + mx sa sb by unfold resP; rw [if_pos hop, if_pos h], show resS op pa sa pb sb = mx sa sb by unfold resS; rw [if_pos hop, if_pos h]]
    rcases hop with rfl | rfl
    · go_enter Try.func10, Try.ntmps10
      go_wp2_with (first | (go_at_call 12; refine (max_any _ _ _).mono ?_; rintro e w' ⟨rfl, rfl⟩) | (go_at_call 13; refine (min_any _ _ _).mono ?_; rintro e w' ⟨rfl, rfl⟩))
      go_ret2
      exact ⟨rfl, rfl⟩
    · go_enter Try.func10, Try.ntmps10
      go_wp2_with (first | (go_at_call 12; refine (max_any _ _ _).mono ?_; rintro e w' ⟨rfl, rfl⟩) | (go_at_call 13; refine (min_any _ _ _).mono ?_; rintro e w' ⟨rfl, rfl⟩))
      go_ret2
      exact ⟨rfl, rfl⟩
  · rw [show resP op pa sa pb sb = 38 by unfold resP; rw [if_pos hop, if_neg h], show resS op pa sa pb sb = 38 - mx (pa - sa) (pb - sb) by unfold resS; rw [if_pos hop, if_neg h]]
    rcases hop with rfl | rfl
    · go_enter Try.func10, Try.ntmps10
      go_wp2_with (first | (go_at_call 12; refine (max_any _ _ _).mono ?_; rintro e w' ⟨rfl, rfl⟩) | (go_at_call 13; refine (min_any _ _ _).mono ?_; rintro e w' ⟨rfl, rfl⟩))
      go_ret2
      exact ⟨rfl, rfl⟩
    · go_enter Try.func10, Try.ntmps10
      go_wp2_with (first | (go_at_call 12; refine (max_any _ _ _).mono ?_; rintro e w' ⟨rfl, rfl⟩) | (go_at_call 13; refine (min_any _ _ _).mono ?_; rintro e w' ⟨rfl, rfl⟩))
      go_ret2
      exact ⟨rfl, rfl⟩

theorem ret_two {a b c d : Int} (h : a = c) (k : b = d) : Ending.returned (.tuple #[.int .i64 a, .int .i64 b]) = .returned (.tuple #[.int .i64 c, .int .i64 d]) := by rw [h, k]

set_option maxHeartbeats 1000000 in
theorem model_mul (pa sa pb sb : Int) (w : World) (h1 : 1 ≤ pa) (h2 : pa ≤ 38) (h3 : 0 ≤ sa) (h4 : sa ≤ pa) (g1 : 1 ≤ pb) (g2 : pb ≤ 38) (g3 : 0 ≤ sb) (g4 : sb ≤ pb) :
    Calls Try.prog 10 #[.int .i64 2, .int .i64 pa, .int .i64 sa, .int .i64 pb, .int .i64 sb] w fun e w' => e = .returned (.tuple #[.int .i64 (resP 2 pa sa pb sb), .int .i64 (resS 2 pa sa pb sb)]) ∧ w' = w := by
  have kP : Hid (resP 2 pa sa pb sb = if pa + pb + 1 ≤ 38 then pa + pb + 1 else 38) := by show _ = _; unfold resP; rw [if_neg (by omega), if_pos rfl]
  have kS : Hid (resS 2 pa sa pb sb = if pa + pb + 1 ≤ 38 then sa + sb else mn (sa + sb) (mx 6 (38 - (pa + pb + 1 - (sa + sb))))) := by show _ = _; unfold resS; rw [if_neg (by omega), if_pos rfl]
  go_enter Try.func10, Try.ntmps10
  go_wp2_with (first | (go_at_call 12; refine (max_any _ _ _).mono ?_; rintro e w' ⟨rfl, rfl⟩) | (go_at_call 13; refine (min_any _ _ _).mono ?_; rintro e w' ⟨rfl, rfl⟩))
  all_goals go_ret2
  all_goals refine ⟨ret_two ?_ ?_, rfl⟩
  all_goals first | rw [kP.out] | rw [kS.out]
  all_goals have c3 := mx_cases 6 (38 - (pa + pb + 1 - (sa + sb)))
  all_goals have c4 := mn_cases (sa + sb) (mx 6 (38 - (pa + pb + 1 - (sa + sb))))
  all_goals split <;> omega

set_option maxHeartbeats 1000000 in
theorem model_div (pa sa pb sb : Int) (w : World) (h1 : 1 ≤ pa) (h2 : pa ≤ 38) (h3 : 0 ≤ sa) (h4 : sa ≤ pa) (g1 : 1 ≤ pb) (g2 : pb ≤ 38) (g3 : 0 ≤ sb) (g4 : sb ≤ pb) :
    Calls Try.prog 10 #[.int .i64 3, .int .i64 pa, .int .i64 sa, .int .i64 pb, .int .i64 sb] w fun e w' => e = .returned (.tuple #[.int .i64 (resP 3 pa sa pb sb), .int .i64 (resS 3 pa sa pb sb)]) ∧ w' = w := by
  have kP : Hid (resP 3 pa sa pb sb = if pa - sa + sb + mx 6 (sa + pb + 1) ≤ 38 then pa - sa + sb + mx 6 (sa + pb + 1) else 38) := by show _ = _; unfold resP; rw [if_neg (by omega), if_neg (by omega), if_pos rfl]
  have kS : Hid (resS 3 pa sa pb sb = if pa - sa + sb + mx 6 (sa + pb + 1) ≤ 38 then mx 6 (sa + pb + 1) else mn (mx 6 (sa + pb + 1)) (mx 6 (38 - (pa - sa + sb + mx 6 (sa + pb + 1) - mx 6 (sa + pb + 1))))) := by show _ = _; unfold resS; rw [if_neg (by omega), if_neg (by omega), if_pos rfl]
  have m1 : mx 6 (sa + pb + 1) ≤ 200 := mx_le (by omega) (by omega)
  have m2 : 6 ≤ mx 6 (sa + pb + 1) := by unfold mx; split <;> omega
  go_enter Try.func10, Try.ntmps10
  go_wp2_with (first | (go_at_call 12; refine (max_any _ _ _).mono ?_; rintro e w' ⟨rfl, rfl⟩) | (go_at_call 13; refine (min_any _ _ _).mono ?_; rintro e w' ⟨rfl, rfl⟩))
  all_goals go_ret2
  all_goals refine ⟨ret_two ?_ ?_, rfl⟩
  all_goals first | rw [kP.out] | rw [kS.out]
  all_goals generalize mx 6 (sa + pb + 1) = q at *
  all_goals have c3 := mx_cases 6 (38 - (pa - sa + sb + q - q))
  all_goals have c4 := mn_cases q (mx 6 (38 - (pa - sa + sb + q - q)))
  all_goals split <;> omega

set_option maxHeartbeats 1000000 in
theorem model_mod (pa sa pb sb : Int) (w : World) (h1 : 1 ≤ pa) (h2 : pa ≤ 38) (h3 : 0 ≤ sa) (h4 : sa ≤ pa) (g1 : 1 ≤ pb) (g2 : pb ≤ 38) (g3 : 0 ≤ sb) (g4 : sb ≤ pb) :
    Calls Try.prog 10 #[.int .i64 4, .int .i64 pa, .int .i64 sa, .int .i64 pb, .int .i64 sb] w fun e w' => e = .returned (.tuple #[.int .i64 (resP 4 pa sa pb sb), .int .i64 (resS 4 pa sa pb sb)]) ∧ w' = w := by
  have kP : Hid (resP 4 pa sa pb sb = mn (pa - sa) (pb - sb) + mx sa sb) := by show _ = _; unfold resP; rw [if_neg (by omega), if_neg (by omega), if_neg (by omega)]
  have kS : Hid (resS 4 pa sa pb sb = mx sa sb) := by show _ = _; unfold resS; rw [if_neg (by omega), if_neg (by omega), if_neg (by omega)]
  have m1 : mx sa sb ≤ 38 := mx_le (by omega) (by omega)
  have m2 : 0 ≤ mx sa sb := le_mx (by omega) (by omega)
  have m3 : mn (pa - sa) (pb - sb) ≤ 38 := mn_le (by omega) (by omega)
  have m4 : 0 ≤ mn (pa - sa) (pb - sb) := le_mn (by omega) (by omega)
  have m5 : mn (pa - sa) (pb - sb) + mx sa sb ≤ 38 := by unfold mn mx; split <;> split <;> omega
  go_enter Try.func10, Try.ntmps10
  go_wp2_with (first | (go_at_call 12; refine (max_any _ _ _).mono ?_; rintro e w' ⟨rfl, rfl⟩) | (go_at_call 13; refine (min_any _ _ _).mono ?_; rintro e w' ⟨rfl, rfl⟩))
  all_goals go_ret2
  all_goals exact ⟨ret_two kP.out.symm kS.out.symm, rfl⟩

theorem model_any (op pa sa pb sb : Int) (o0 : 0 ≤ op) (o4 : op ≤ 4) (ha : vld pa sa = true) (hb : vld pb sb = true) (w : World) :
    Calls Try.prog 10 #[.int .i64 op, .int .i64 pa, .int .i64 sa, .int .i64 pb, .int .i64 sb] w fun e w' => e = .returned (.tuple #[.int .i64 (resP op pa sa pb sb), .int .i64 (resS op pa sa pb sb)]) ∧ w' = w := by
  obtain ⟨a1, a2, a3, a4⟩ := vld_out ha
  obtain ⟨b1, b2, b3, b4⟩ := vld_out hb
  by_cases h01 : op = 0 ∨ op = 1
  · exact model_add op pa sa pb sb w h01 a1 a2 a3 a4 b1 b2 b3 b4
  · have ho : op = 2 ∨ op = 3 ∨ op = 4 := by omega
    rcases ho with rfl | rfl | rfl
    · exact model_mul pa sa pb sb w a1 a2 a3 a4 b1 b2 b3 b4
    · exact model_div pa sa pb sb w a1 a2 a3 a4 b1 b2 b3 b4
    · exact model_mod pa sa pb sb w a1 a2 a3 a4 b1 b2 b3 b4

set_option maxHeartbeats 1000000 in
theorem rules_near (op pa sa pb sb P S : Int) (o0 : 0 ≤ op) (o4 : op ≤ 4) (ha : vld pa sa = true) (hb : vld pb sb = true)
    (hm : Hid (∀ w, Calls Try.prog 10 #[.int .i64 op, .int .i64 pa, .int .i64 sa, .int .i64 pb, .int .i64 sb] w fun e w' => e = .returned (.tuple #[.int .i64 P, .int .i64 S]) ∧ w' = w))
    (hz : Hid (∀ w, Calls Try.prog 11 #[.int .i64 op, .int .i64 pa, .int .i64 sa, .int .i64 pb, .int .i64 sb] w fun e w' => e = .returned (.tuple #[.int .u8 2, .int .i64 P, .int .i64 S, .int .i64 0, .int .i64 0, .int .i64 0]) ∧ Grown w w')) (w : World) :
    Calls Try.prog 5 #[.int .i64 op, .int .i64 pa, .int .i64 sa, .int .i64 pb, .int .i64 sb] w fun e w' => e = .returned (.bool true) ∧ Grown w w' := by
  go_enter Try.func5, Try.ntmps5
  go_wp2_with (go_at_call 9; refine (vld_any _ _ _).mono ?_; rintro e w' ⟨rfl, rfl⟩)
  refine (hm.out _).mono ?_
  rintro e w' ⟨rfl, rfl⟩
  go_wp2_with fail
  refine (hz.out _).mono ?_
  rintro e w' ⟨rfl, hg⟩
  go_wp2
  go_ret
  exact ⟨rfl, hg⟩

theorem rules_law (op pa sa pb sb : Int) (w : World) :
    Calls Try.prog 5 #[.int .i64 op, .int .i64 pa, .int .i64 sa, .int .i64 pb, .int .i64 sb] w fun e w' => e = .returned (.bool true) ∧ Grown w w' := by
  by_cases h : op < 0 ∨ 4 < op ∨ vld pa sa = false ∨ vld pb sb = false
  · exact rules_far op pa sa pb sb w h
  · have ha : vld pa sa = true := by
      cases e : vld pa sa
      · exact absurd (Or.inr (Or.inr (Or.inl e))) h
      · rfl
    have hb : vld pb sb = true := by
      cases e : vld pb sb
      · exact absurd (Or.inr (Or.inr (Or.inr e))) h
      · rfl
    have o0 : 0 ≤ op := by omega
    have o4 : op ≤ 4 := by omega
    exact rules_near op pa sa pb sb _ _ o0 o4 ha hb (model_any op pa sa pb sb o0 o4 ha hb) (zz_any op pa sa pb sb o0 o4 ha hb) w

end Go.Proofs.Qxb6605203a.Arith
