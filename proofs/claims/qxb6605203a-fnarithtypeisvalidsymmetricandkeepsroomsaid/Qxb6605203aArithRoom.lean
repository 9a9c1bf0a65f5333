import Derived.Test.Qxb6605203aArithB
namespace Go.Proofs.Qxb6605203a.Arith
open Go.RowKit
set_option linter.unusedVariables false
set_option maxRecDepth 100000

set_option maxHeartbeats 1000000 in
theorem room_far (op pa sa pb sb : Int) (w : World) (h : op < 0 ∨ 4 < op ∨ vld pa sa = false ∨ vld pb sb = false) :
    Calls Try.prog 6 #[.int .i64 op, .int .i64 pa, .int .i64 sa, .int .i64 pb, .int .i64 sb] w fun e w' => e = .returned (.bool true) ∧ Grown w w' := by
  by_cases g1 : op < 0
  · go_enter Try.func6, Try.ntmps6
    go_wp2_with fail
    go_ret
    exact ⟨rfl, Grown.refl _⟩
  · by_cases g2 : 4 < op
    · go_enter Try.func6, Try.ntmps6
      go_wp2_with fail
      go_ret
      exact ⟨rfl, Grown.refl _⟩
    · by_cases g3 : vld pa sa = true
      · have g4 : vld pb sb = false := by
          rcases h with h | h | h | h
          · omega
          · omega
          · rw [g3] at h; cases h
          · exact h
        clear h
        go_enter Try.func6, Try.ntmps6
        go_wp2_with (go_at_call 9; refine (vld_any _ _ _).mono ?_; rintro e w' ⟨rfl, rfl⟩)
        go_ret
        exact ⟨rfl, Grown.refl _⟩
      · have g4 : vld pa sa = false := by simpa using g3
        clear h g3
        go_enter Try.func6, Try.ntmps6
        go_wp2_with (go_at_call 9; refine (vld_any _ _ _).mono ?_; rintro e w' ⟨rfl, rfl⟩)
        go_ret
        exact ⟨rfl, Grown.refl _⟩

/-- what ZZarithType does at given arguments -/
abbrev ZZ (op pa sa pb sb P S : Int) : Prop := ∀ w, Calls Try.prog 11 #[.int .i64 op, .int .i64 pa, .int .i64 sa, .int .i64 pb, .int .i64 sb] w fun e w' => e = .returned (.tuple #[.int .u8 2, .int .i64 P, .int .i64 S, .int .i64 0, .int .i64 0, .int .i64 0]) ∧ Grown w w'

set_option maxHeartbeats 1000000 in
theorem room_add (op pa sa pb sb P S : Int) (hop : op = 0 ∨ op = 1) (ha : vld pa sa = true) (hb : vld pb sb = true) (hv : vld P S = true)
    (c1 : Hid (ZZ op pa sa pb sb P S)) (c2 : Hid (ZZ op pb sb pa sa P S)) (c3 : Hid (ZZ (1 - op) pa sa pb sb P S)) (hr : mx (pa - sa) (pb - sb) ≤ P - S) (w : World) :
    Calls Try.prog 6 #[.int .i64 op, .int .i64 pa, .int .i64 sa, .int .i64 pb, .int .i64 sb] w fun e w' => e = .returned (.bool true) ∧ Grown w w' := by
  obtain ⟨a1, a2, a3, a4⟩ := vld_out ha
  obtain ⟨b1, b2, b3, b4⟩ := vld_out hb
  obtain ⟨p1, p2, p3, p4⟩ := vld_out hv
  rcases hop with rfl | rfl
  · go_enter Try.func6, Try.ntmps6
    go_wp2_with (go_at_call 9; refine (vld_any _ _ _).mono ?_; rintro e w' ⟨rfl, rfl⟩)
    refine (c1.out _).mono ?_
    rintro e w1 ⟨rfl, hg1⟩
    go_wp2_with (go_at_call 9; refine (vld_any _ _ _).mono ?_; rintro e w' ⟨rfl, rfl⟩)
    refine (c2.out _).mono ?_
    rintro e w2 ⟨rfl, hg2⟩
    go_wp2_with fail
    refine (c3.out _).mono ?_
    rintro e w3 ⟨rfl, hg3⟩
    go_wp2_with (go_at_call 12; refine (max_any _ _ _).mono ?_; rintro e w' ⟨rfl, rfl⟩)
    go_ret
    exact ⟨rfl, grown_trans (grown_trans hg1 hg2) hg3⟩
  · go_enter Try.func6, Try.ntmps6
    go_wp2_with (go_at_call 9; refine (vld_any _ _ _).mono ?_; rintro e w' ⟨rfl, rfl⟩)
    refine (c1.out _).mono ?_
    rintro e w1 ⟨rfl, hg1⟩
    go_wp2_with (go_at_call 9; refine (vld_any _ _ _).mono ?_; rintro e w' ⟨rfl, rfl⟩)
    refine (c2.out _).mono ?_
    rintro e w2 ⟨rfl, hg2⟩
    go_wp2_with fail
    refine (c3.out _).mono ?_
    rintro e w3 ⟨rfl, hg3⟩
    go_wp2_with (go_at_call 12; refine (max_any _ _ _).mono ?_; rintro e w' ⟨rfl, rfl⟩)
    go_ret
    exact ⟨rfl, grown_trans (grown_trans hg1 hg2) hg3⟩

set_option maxHeartbeats 1000000 in
theorem room_mul (pa sa pb sb P S : Int) (ha : vld pa sa = true) (hb : vld pb sb = true) (hv : vld P S = true)
    (c1 : Hid (ZZ 2 pa sa pb sb P S)) (c2 : Hid (ZZ 2 pb sb pa sa P S)) (hr : mn 6 (sa + sb) ≤ S) (w : World) :
    Calls Try.prog 6 #[.int .i64 2, .int .i64 pa, .int .i64 sa, .int .i64 pb, .int .i64 sb] w fun e w' => e = .returned (.bool true) ∧ Grown w w' := by
  obtain ⟨a1, a2, a3, a4⟩ := vld_out ha
  obtain ⟨b1, b2, b3, b4⟩ := vld_out hb
  obtain ⟨p1, p2, p3, p4⟩ := vld_out hv
  go_enter Try.func6, Try.ntmps6
  go_wp2_with (go_at_call 9; refine (vld_any _ _ _).mono ?_; rintro e w' ⟨rfl, rfl⟩)
  refine (c1.out _).mono ?_
  rintro e w1 ⟨rfl, hg1⟩
  go_wp2_with (go_at_call 9; refine (vld_any _ _ _).mono ?_; rintro e w' ⟨rfl, rfl⟩)
  refine (c2.out _).mono ?_
  rintro e w2 ⟨rfl, hg2⟩
  go_wp2_with (go_at_call 13; refine (min_any _ _ _).mono ?_; rintro e w' ⟨rfl, rfl⟩)
  go_ret
  exact ⟨rfl, grown_trans hg1 hg2⟩

set_option maxHeartbeats 1000000 in
theorem room_div (pa sa pb sb P S : Int) (ha : vld pa sa = true) (hb : vld pb sb = true) (hv : vld P S = true)
    (c1 : Hid (ZZ 3 pa sa pb sb P S)) (hr : 6 ≤ S) (w : World) :
    Calls Try.prog 6 #[.int .i64 3, .int .i64 pa, .int .i64 sa, .int .i64 pb, .int .i64 sb] w fun e w' => e = .returned (.bool true) ∧ Grown w w' := by
  obtain ⟨a1, a2, a3, a4⟩ := vld_out ha
  obtain ⟨b1, b2, b3, b4⟩ := vld_out hb
  obtain ⟨p1, p2, p3, p4⟩ := vld_out hv
  go_enter Try.func6, Try.ntmps6
  go_wp2_with (go_at_call 9; refine (vld_any _ _ _).mono ?_; rintro e w' ⟨rfl, rfl⟩)
  refine (c1.out _).mono ?_
  rintro e w1 ⟨rfl, hg1⟩
  go_wp2_with (go_at_call 9; refine (vld_any _ _ _).mono ?_; rintro e w' ⟨rfl, rfl⟩)
  go_ret
  exact ⟨rfl, hg1⟩

set_option maxHeartbeats 1000000 in
theorem room_mod (pa sa pb sb P S : Int) (ha : vld pa sa = true) (hb : vld pb sb = true) (hv : vld P S = true)
    (c1 : Hid (ZZ 4 pa sa pb sb P S)) (c2 : Hid (ZZ 4 pb sb pa sa P S)) (hr : P ≤ mx pa pb) (w : World) :
    Calls Try.prog 6 #[.int .i64 4, .int .i64 pa, .int .i64 sa, .int .i64 pb, .int .i64 sb] w fun e w' => e = .returned (.bool true) ∧ Grown w w' := by
  obtain ⟨a1, a2, a3, a4⟩ := vld_out ha
  obtain ⟨b1, b2, b3, b4⟩ := vld_out hb
  obtain ⟨p1, p2, p3, p4⟩ := vld_out hv
  go_enter Try.func6, Try.ntmps6
  go_wp2_with (go_at_call 9; refine (vld_any _ _ _).mono ?_; rintro e w' ⟨rfl, rfl⟩)
  refine (c1.out _).mono ?_
  rintro e w1 ⟨rfl, hg1⟩
  go_wp2_with (go_at_call 9; refine (vld_any _ _ _).mono ?_; rintro e w' ⟨rfl, rfl⟩)
  refine (c2.out _).mono ?_
  rintro e w2 ⟨rfl, hg2⟩
  go_wp2_with (go_at_call 12; refine (max_any _ _ _).mono ?_; rintro e w' ⟨rfl, rfl⟩)
  go_ret
  exact ⟨rfl, grown_trans hg1 hg2⟩

theorem room_law (op pa sa pb sb : Int) (w : World) :
    Calls Try.prog 6 #[.int .i64 op, .int .i64 pa, .int .i64 sa, .int .i64 pb, .int .i64 sb] w fun e w' => e = .returned (.bool true) ∧ Grown w w' := by
  by_cases h : op < 0 ∨ 4 < op ∨ vld pa sa = false ∨ vld pb sb = false
  · exact room_far op pa sa pb sb w h
  · have ha : vld pa sa = true := by
      cases e : vld pa sa
      · exact absurd (Or.inr (Or.inr (Or.inl e))) h
      · rfl
    have hb : vld pb sb = true := by
      cases e : vld pb sb
      · exact absurd (Or.inr (Or.inr (Or.inr e))) h
      · rfl
    have o0 : 0 ≤ op := by omega
    have o4 : op ≤ 4 := by omega
    have hv := res_valid op pa sa pb sb ha hb
    have c1 : ZZ op pa sa pb sb (resP op pa sa pb sb) (resS op pa sa pb sb) := zz_any op pa sa pb sb o0 o4 ha hb
    have c2 : op ≠ 3 → ZZ op pb sb pa sa (resP op pa sa pb sb) (resS op pa sa pb sb) := fun ne => by
      have h2 := zz_any op pb sb pa sa o0 o4 hb ha
      rw [(res_sym op pa sa pb sb ne).1, (res_sym op pa sa pb sb ne).2] at h2
      exact h2
    by_cases h01 : op = 0 ∨ op = 1
    · have c3 : ZZ (1 - op) pa sa pb sb (resP op pa sa pb sb) (resS op pa sa pb sb) := by
        have h3 := zz_any (1 - op) pa sa pb sb (by omega) (by omega) ha hb
        rw [(res_sub op pa sa pb sb h01).1, (res_sub op pa sa pb sb h01).2] at h3
        exact h3
      exact room_add op pa sa pb sb _ _ h01 ha hb hv c1 (c2 (by omega)) c3 (res_room op pa sa pb sb h01) w
    · have ho : op = 2 ∨ op = 3 ∨ op = 4 := by omega
      rcases ho with rfl | rfl | rfl
      · exact room_mul pa sa pb sb _ _ ha hb hv c1 (c2 (by omega)) (res_mul pa sa pb sb) w
      · exact room_div pa sa pb sb _ _ ha hb hv c1 (res_div pa sa pb sb) w
      · exact room_mod pa sa pb sb _ _ ha hb hv c1 (c2 (by omega)) (res_mod pa sa pb sb) w

end Go.Proofs.Qxb6605203a.Arith
