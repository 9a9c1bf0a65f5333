import Derived.Test.Qxb6605203aArithA
namespace Go.Proofs.Qxb6605203a.Arith
open Go.RowKit
set_option linter.unusedVariables false

theorem grown_trans {a b c : World} (h : Grown a b) (k : Grown b c) : Grown a c :=
  ⟨World.keptBut_trans h.1 k.1, fun x => (k.2.1 x).trans (h.2.1 x), Nat.le_trans h.2.2 k.2.2⟩

theorem ret_int {k : IntKind} {a b : Int} (h : a = b) : Ending.returned (.int k a) = .returned (.int k b) := by rw [h]

theorem max_any (a b : Int) (w : World) :
    Calls Try.prog 12 #[.int .i64 a, .int .i64 b] w fun e w' => e = .returned (.int .i64 (mx a b)) ∧ w' = w := by
  by_cases h : b < a
  · go_enter Try.func12, Try.ntmps12
    go_wp2
    go_ret
    exact ⟨ret_int (by unfold mx; split <;> omega), rfl⟩
  · go_enter Try.func12, Try.ntmps12
    go_wp2
    go_ret
    exact ⟨ret_int (by unfold mx; split <;> omega), rfl⟩

theorem min_any (a b : Int) (w : World) :
    Calls Try.prog 13 #[.int .i64 a, .int .i64 b] w fun e w' => e = .returned (.int .i64 (mn a b)) ∧ w' = w := by
  by_cases h : a < b
  · go_enter Try.func13, Try.ntmps13
    go_wp2
    go_ret
    exact ⟨ret_int (by unfold mn; split <;> omega), rfl⟩
  · go_enter Try.func13, Try.ntmps13
    go_wp2
    go_ret
    exact ⟨ret_int (by unfold mn; split <;> omega), rfl⟩

/-- is (p, s) a numeric type -/
def vld (p s : Int) : Bool := decide (1 ≤ p ∧ p ≤ 38 ∧ 0 ≤ s ∧ s ≤ p)
theorem vld_out {p s : Int} (h : vld p s = true) : 1 ≤ p ∧ p ≤ 38 ∧ 0 ≤ s ∧ s ≤ p := of_decide_eq_true h
theorem vld_mk {p s : Int} (h : 1 ≤ p ∧ p ≤ 38 ∧ 0 ≤ s ∧ s ≤ p) : vld p s = true := decide_eq_true h
theorem vld_not {p s : Int} (h : ¬ (1 ≤ p ∧ p ≤ 38 ∧ 0 ≤ s ∧ s ≤ p)) : vld p s = false := decide_eq_false h

theorem ret_bool {a b : Bool} (h : a = b) : Ending.returned (.bool a) = .returned (.bool b) := by rw [h]
set_option maxHeartbeats 1000000 in
theorem vld_any (p s : Int) (w : World) :
    Calls Try.prog 9 #[.int .i64 p, .int .i64 s] w fun e w' => e = .returned (.bool (vld p s)) ∧ w' = w := by
  by_cases a : 1 ≤ p
  · by_cases b : p ≤ 38
    · by_cases c : 0 ≤ s
      · by_cases d : s ≤ p
        · have e : vld p s = true := vld_mk ⟨a, b, c, d⟩
          go_enter Try.func9, Try.ntmps9
          go_wp2
          go_ret
          exact ⟨ret_bool (by first | rfl | exact e.symm), rfl⟩
        · have e : vld p s = false := vld_not (by omega)
          go_enter Try.func9, Try.ntmps9
          go_wp2
          go_ret
          exact ⟨ret_bool (by first | rfl | exact e.symm), rfl⟩
      · have e : vld p s = false := vld_not (by omega)
        go_enter Try.func9, Try.ntmps9
        go_wp2
        go_ret
        exact ⟨ret_bool (by first | rfl | exact e.symm), rfl⟩
    · have e : vld p s = false := vld_not (by omega)
      go_enter Try.func9, Try.ntmps9
      go_wp2
      go_ret
      exact ⟨ret_bool (by first | rfl | exact e.symm), rfl⟩
  · have e : vld p s = false := vld_not (by omega)
    go_enter Try.func9, Try.ntmps9
    go_wp2
    go_ret
    exact ⟨ret_bool (by first | rfl | exact e.symm), rfl⟩

set_option maxHeartbeats 1000000 in
theorem zz_of (op pa sa pb sb P S : Int)
    (h : ∀ w, Calls Try.prog 15 #[.int .i64 op, .agg #[.int .u8 2, .int .i64 pa, .int .i64 sa, .int .i64 0, .int .i64 0, .int .i64 0], .agg #[.int .u8 2, .int .i64 pb, .int .i64 sb, .int .i64 0, .int .i64 0, .int .i64 0]] w fun e w' => e = .returned (.agg #[.int .u8 2, .int .i64 P, .int .i64 S, .int .i64 0, .int .i64 0, .int .i64 0]) ∧ Grown w w') (w : World) :
    Calls Try.prog 11 #[.int .i64 op, .int .i64 pa, .int .i64 sa, .int .i64 pb, .int .i64 sb] w fun e w' => e = .returned (.tuple #[.int .u8 2, .int .i64 P, .int .i64 S, .int .i64 0, .int .i64 0, .int .i64 0]) ∧ Grown w w' := by
  have H : Hid (∀ w, Calls Try.prog 15 #[.int .i64 op, .agg #[.int .u8 2, .int .i64 pa, .int .i64 sa, .int .i64 0, .int .i64 0, .int .i64 0], .agg #[.int .u8 2, .int .i64 pb, .int .i64 sb, .int .i64 0, .int .i64 0, .int .i64 0]] w fun e w' => e = .returned (.agg #[.int .u8 2, .int .i64 P, .int .i64 S, .int .i64 0, .int .i64 0, .int .i64 0]) ∧ Grown w w') := h
  clear h
  go_enter Try.func11, Try.ntmps11
  go_wp2_with fail
  refine (H.out _).mono ?_
  rintro e w1 ⟨rfl, hg⟩
  go_wp2
  go_region_held3 (fun W => W.cell? ⟨w1.heap.size, 0, none⟩ = some (.int .u8 2) ∧ W.cell? ⟨w1.heap.size, 1, none⟩ = some (.int .i64 P) ∧ W.cell? ⟨w1.heap.size, 2, none⟩ = some (.int .i64 S) ∧ W.cell? ⟨w1.heap.size, 3, none⟩ = some (.int .i64 0) ∧ W.cell? ⟨w1.heap.size, 4, none⟩ = some (.int .i64 0) ∧ W.cell? ⟨w1.heap.size, 5, none⟩ = some (.int .i64 0)) (first | (go_keep; done) | (refine ⟨?_, ?_, ?_, ?_, ?_, ?_⟩ <;> go_simp)) (fail)
  go_wp2
  exact bodyPost_ret (v := .tuple #[.int .u8 2, .int .i64 P, .int .i64 S, .int .i64 0, .int .i64 0, .int .i64 0]) (by simp [results, Try.results11, go_sem]) rfl ⟨rfl, grown_trans hg (by repeat (first | exact Grown.refl _ | apply Grown.drew | apply Grown.alloc))⟩

/-- the precision and the scale of the result, by the operator -/
def resP (op pa sa pb sb : Int) : Int :=
  if op = 0 ∨ op = 1 then (if mx (pa - sa) (pb - sb) + 1 + mx sa sb ≤ 38 then mx (pa - sa) (pb - sb) + 1 + mx sa sb else 38)
  else if op = 2 then (if pa + pb + 1 ≤ 38 then pa + pb + 1 else 38)
  else if op = 3 then (if pa - sa + sb + mx 6 (sa + pb + 1) ≤ 38 then pa - sa + sb + mx 6 (sa + pb + 1) else 38)
  else mn (pa - sa) (pb - sb) + mx sa sb
def resS (op pa sa pb sb : Int) : Int :=
  if op = 0 ∨ op = 1 then (if mx (pa - sa) (pb - sb) + 1 + mx sa sb ≤ 38 then mx sa sb else 38 - mx (pa - sa) (pb - sb))
  else if op = 2 then (if pa + pb + 1 ≤ 38 then sa + sb else mn (sa + sb) (mx 6 (38 - (pa + pb + 1 - (sa + sb)))))
  else if op = 3 then (if pa - sa + sb + mx 6 (sa + pb + 1) ≤ 38 then mx 6 (sa + pb + 1) else mn (mx 6 (sa + pb + 1)) (mx 6 (38 - (pa - sa + sb + mx 6 (sa + pb + 1) - mx 6 (sa + pb + 1)))))
  else mx sa sb

theorem zz_any (op pa sa pb sb : Int) (o0 : 0 ≤ op) (o4 : op ≤ 4) (ha : vld pa sa = true) (hb : vld pb sb = true) (w : World) :
    Calls Try.prog 11 #[.int .i64 op, .int .i64 pa, .int .i64 sa, .int .i64 pb, .int .i64 sb] w fun e w' => e = .returned (.tuple #[.int .u8 2, .int .i64 (resP op pa sa pb sb), .int .i64 (resS op pa sa pb sb), .int .i64 0, .int .i64 0, .int .i64 0]) ∧ Grown w w' := by
  obtain ⟨a1, a2, a3, a4⟩ := vld_out ha
  obtain ⟨b1, b2, b3, b4⟩ := vld_out hb
  have ho : op = 0 ∨ op = 1 ∨ op = 2 ∨ op = 3 ∨ op = 4 := by omega
  rcases ho with rfl | rfl | rfl | rfl | rfl
  · by_cases h : mx (pa - sa) (pb - sb) + 1 + mx sa sb ≤ 38
    · have eP : resP 0 pa sa pb sb = mx (pa - sa) (pb - sb) + 1 + mx sa sb := by unfold resP; rw [if_pos (by omega), if_pos h]
      have eS : resS 0 pa sa pb sb = mx sa sb := by unfold resS; rw [if_pos (by omega), if_pos h]
      rw [eP, eS]
      exact zz_of _ _ _ _ _ _ _ (fun w => add0_lo pa sa pb sb w a1 a2 a3 a4 b1 b2 b3 b4 h) w
    · have eP : resP 0 pa sa pb sb = 38 := by unfold resP; rw [if_pos (by omega), if_neg h]
      have eS : resS 0 pa sa pb sb = 38 - mx (pa - sa) (pb - sb) := by unfold resS; rw [if_pos (by omega), if_neg h]
      rw [eP, eS]
      exact zz_of _ _ _ _ _ _ _ (fun w => add0_hi pa sa pb sb w a1 a2 a3 a4 b1 b2 b3 b4 (by omega)) w
  · by_cases h : mx (pa - sa) (pb - sb) + 1 + mx sa sb ≤ 38
    · have eP : resP 1 pa sa pb sb = mx (pa - sa) (pb - sb) + 1 + mx sa sb := by unfold resP; rw [if_pos (by omega), if_pos h]
      have eS : resS 1 pa sa pb sb = mx sa sb := by unfold resS; rw [if_pos (by omega), if_pos h]
      rw [eP, eS]
      exact zz_of _ _ _ _ _ _ _ (fun w => add1_lo pa sa pb sb w a1 a2 a3 a4 b1 b2 b3 b4 h) w
    · have eP : resP 1 pa sa pb sb = 38 := by unfold resP; rw [if_pos (by omega), if_neg h]
      have eS : resS 1 pa sa pb sb = 38 - mx (pa - sa) (pb - sb) := by unfold resS; rw [if_pos (by omega), if_neg h]
      rw [eP, eS]
      exact zz_of _ _ _ _ _ _ _ (fun w => add1_hi pa sa pb sb w a1 a2 a3 a4 b1 b2 b3 b4 (by omega)) w
  · by_cases h : pa + pb + 1 ≤ 38
    · have eP : resP 2 pa sa pb sb = pa + pb + 1 := by unfold resP; rw [if_neg (by omega), if_pos rfl, if_pos h]
      have eS : resS 2 pa sa pb sb = sa + sb := by unfold resS; rw [if_neg (by omega), if_pos rfl, if_pos h]
      rw [eP, eS]
      exact zz_of _ _ _ _ _ _ _ (fun w => mul_lo pa sa pb sb w a1 a2 a3 a4 b1 b2 b3 b4 h) w
    · have eP : resP 2 pa sa pb sb = 38 := by unfold resP; rw [if_neg (by omega), if_pos rfl, if_neg h]
      have eS : resS 2 pa sa pb sb = mn (sa + sb) (mx 6 (38 - (pa + pb + 1 - (sa + sb)))) := by unfold resS; rw [if_neg (by omega), if_pos rfl, if_neg h]
      rw [eP, eS]
      exact zz_of _ _ _ _ _ _ _ (fun w => mul_hi pa sa pb sb w a1 a2 a3 a4 b1 b2 b3 b4 (by omega)) w
  · by_cases h : pa - sa + sb + mx 6 (sa + pb + 1) ≤ 38
    · have eP : resP 3 pa sa pb sb = pa - sa + sb + mx 6 (sa + pb + 1) := by unfold resP; rw [if_neg (by omega), if_neg (by omega), if_pos rfl, if_pos h]
      have eS : resS 3 pa sa pb sb = mx 6 (sa + pb + 1) := by unfold resS; rw [if_neg (by omega), if_neg (by omega), if_pos rfl, if_pos h]
      rw [eP, eS]
      exact zz_of _ _ _ _ _ _ _ (fun w => div_lo pa sa pb sb w a1 a2 a3 a4 b1 b2 b3 b4 h) w
    · have eP : resP 3 pa sa pb sb = 38 := by unfold resP; rw [if_neg (by omega), if_neg (by omega), if_pos rfl, if_neg h]
      have eS : resS 3 pa sa pb sb = mn (mx 6 (sa + pb + 1)) (mx 6 (38 - (pa - sa + sb + mx 6 (sa + pb + 1) - mx 6 (sa + pb + 1)))) := by unfold resS; rw [if_neg (by omega), if_neg (by omega), if_pos rfl, if_neg h]
      rw [eP, eS]
      exact zz_of _ _ _ _ _ _ _ (fun w => div_hi pa sa pb sb w a1 a2 a3 a4 b1 b2 b3 b4 (by omega)) w
  · have eP : resP 4 pa sa pb sb = mn (pa - sa) (pb - sb) + mx sa sb := by unfold resP; rw [if_neg (by omega), if_neg (by omega), if_neg (by omega)]
    have eS : resS 4 pa sa pb sb = mx sa sb := by unfold resS; rw [if_neg (by omega), if_neg (by omega), if_neg (by omega)]
    rw [eP, eS]
    exact zz_of _ _ _ _ _ _ _ (fun w => mod_any pa sa pb sb w a1 a2 a3 a4 b1 b2 b3 b4) w

theorem mx_cases (x y : Int) : (mx x y = x ∧ y ≤ x) ∨ (mx x y = y ∧ x ≤ y) := by unfold mx; split <;> omega
theorem mn_cases (x y : Int) : (mn x y = x ∧ x ≤ y) ∨ (mn x y = y ∧ y ≤ x) := by unfold mn; split <;> omega
theorem mx_comm (x y : Int) : mx x y = mx y x := by unfold mx; split <;> split <;> omega
theorem mn_comm (x y : Int) : mn x y = mn y x := by unfold mn; split <;> split <;> omega

theorem res_sym (op pa sa pb sb : Int) (h : op ≠ 3) : resP op pb sb pa sa = resP op pa sa pb sb ∧ resS op pb sb pa sa = resS op pa sa pb sb := by
  unfold resP resS
  rw [mx_comm (pb - sb), mx_comm sb, mn_comm (pb - sb), Int.add_comm pb pa, Int.add_comm sb sa]
  constructor
  · simp only [h, if_false]
  · simp only [h, if_false]
theorem res_sub (op pa sa pb sb : Int) (h : op = 0 ∨ op = 1) : resP (1 - op) pa sa pb sb = resP op pa sa pb sb ∧ resS (1 - op) pa sa pb sb = resS op pa sa pb sb := by
  have h' : 1 - op = 0 ∨ 1 - op = 1 := by omega
  unfold resP resS
  rw [if_pos h, if_pos h', if_pos h, if_pos h']
  exact ⟨rfl, rfl⟩

theorem res_valid (op pa sa pb sb : Int) (ha : vld pa sa = true) (hb : vld pb sb = true) : vld (resP op pa sa pb sb) (resS op pa sa pb sb) = true := by
  obtain ⟨a1, a2, a3, a4⟩ := vld_out ha
  obtain ⟨b1, b2, b3, b4⟩ := vld_out hb
  apply vld_mk
  unfold resP resS
  by_cases o1 : op = 0 ∨ op = 1
  · have c1 := mx_cases (pa - sa) (pb - sb)
    have c2 := mx_cases sa sb
    rw [if_pos o1, if_pos o1]
    split <;> omega
  · rw [if_neg o1, if_neg o1]
    by_cases o2 : op = 2
    · have c3 := mx_cases 6 (38 - (pa + pb + 1 - (sa + sb)))
      have c4 := mn_cases (sa + sb) (mx 6 (38 - (pa + pb + 1 - (sa + sb))))
      rw [if_pos o2, if_pos o2]
      split <;> omega
    · rw [if_neg o2, if_neg o2]
      by_cases o3 : op = 3
      · have c5 := mx_cases 6 (sa + pb + 1)
        rw [if_pos o3, if_pos o3]
        split
        · omega
        · have c6 := mx_cases 6 (38 - (pa - sa + sb + mx 6 (sa + pb + 1) - mx 6 (sa + pb + 1)))
          have c7 := mn_cases (mx 6 (sa + pb + 1)) (mx 6 (38 - (pa - sa + sb + mx 6 (sa + pb + 1) - mx 6 (sa + pb + 1))))
          omega
      · have c2 := mx_cases sa sb
        have c8 := mn_cases (pa - sa) (pb - sb)
        rw [if_neg o3, if_neg o3]
        omega

theorem res_room (op pa sa pb sb : Int) (h : op = 0 ∨ op = 1) : mx (pa - sa) (pb - sb) ≤ resP op pa sa pb sb - resS op pa sa pb sb := by
  unfold resP resS
  rw [if_pos h, if_pos h]
  split <;> omega
theorem res_mul (pa sa pb sb : Int) : mn 6 (sa + sb) ≤ resS 2 pa sa pb sb := by
  have c3 := mx_cases 6 (38 - (pa + pb + 1 - (sa + sb)))
  have c4 := mn_cases (sa + sb) (mx 6 (38 - (pa + pb + 1 - (sa + sb))))
  have c5 := mn_cases 6 (sa + sb)
  unfold resS
  rw [if_neg (by omega), if_pos rfl]
  split <;> omega
theorem res_div (pa sa pb sb : Int) : 6 ≤ resS 3 pa sa pb sb := by
  have c5 := mx_cases 6 (sa + pb + 1)
  have c6 := mx_cases 6 (38 - (pa - sa + sb + mx 6 (sa + pb + 1) - mx 6 (sa + pb + 1)))
  have c7 := mn_cases (mx 6 (sa + pb + 1)) (mx 6 (38 - (pa - sa + sb + mx 6 (sa + pb + 1) - mx 6 (sa + pb + 1))))
  unfold resS
  rw [if_neg (by omega), if_neg (by omega), if_pos rfl]
  split <;> omega
theorem res_mod (pa sa pb sb : Int) : resP 4 pa sa pb sb ≤ mx pa pb := by
  have c2 := mx_cases sa sb
  have c3 := mx_cases pa pb
  have c8 := mn_cases (pa - sa) (pb - sb)
  unfold resP
  rw [if_neg (by omega), if_neg (by omega), if_neg (by omega)]
  omega

end Go.Proofs.Qxb6605203a.Arith
