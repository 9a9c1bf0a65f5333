import Derived.Test.Qxb6605203aRows
import Derived.WalkKit
import Derived.WalkSpells
import Derived.WalkLawsBesides
import Derived.RowKit3
import Derived.Deep.RegionHeld3
import Derived.BigQuiet
import Derived.Outline
namespace Go.Proofs.Qxb6605203a.Arith
open Go.RowKit
set_option linter.unusedVariables false

/-- the greater and the smaller of two: plain, and shut to the walk -/
def mx (x y : Int) : Int := if y > x then y else x
def mn (x y : Int) : Int := if y < x then y else x
theorem run_max_mx {P : Program} {w : World} (ts : Array TypeId) (t : TypeId) (k k' : IntKind) (x y : Int) : (Builtin.max_ ts t #[.int k x, .int k' y]).run P w = .ok (.int k (mx x y)) w := by
  rw [run_max_int2]; rfl
theorem run_min_mn {P : Program} {w : World} (ts : Array TypeId) (t : TypeId) (k k' : IntKind) (x y : Int) : (Builtin.min_ ts t #[.int k x, .int k' y]).run P w = .ok (.int k (mn x y)) w := by
  rw [run_min_int2]; rfl
theorem mx_le {x y b : Int} (h : x ≤ b) (k : y ≤ b) : mx x y ≤ b := by unfold mx; split <;> assumption
theorem le_mx {x y b : Int} (h : b ≤ x) (k : b ≤ y) : b ≤ mx x y := by unfold mx; split <;> assumption
theorem mn_le {x y b : Int} (h : x ≤ b) (k : y ≤ b) : mn x y ≤ b := by unfold mn; split <;> assumption
theorem le_mn {x y b : Int} (h : b ≤ x) (k : b ≤ y) : b ≤ mn x y := by unfold mn; split <;> assumption
attribute [local go_sem ↓] run_max_mx run_min_mn

theorem integral_any (k p s d t l : Int) (w : World) (hp0 : 0 ≤ p) (hp : p ≤ 1000) (hs0 : 0 ≤ s) (hs : s ≤ 1000) :
    Calls Try.prog 16 #[.agg #[.int .u8 k, .int .i64 p, .int .i64 s, .int .i64 d, .int .i64 t, .int .i64 l]] w fun e w' => e = .returned (.int .i64 (p - s)) ∧ w' = w.alloc (.cells #[.int .u8 k, .int .i64 p, .int .i64 s, .int .i64 d, .int .i64 t, .int .i64 l] 38) := by
  go_enter Try.func16, Try.ntmps16
  go_wp2
  go_ret
  exact ⟨rfl, rfl⟩


set_option maxHeartbeats 1000000 in
theorem add0_lo (pa sa pb sb : Int) (w : World) (h1 : 1 ≤ pa) (h2 : pa ≤ 38) (h3 : 0 ≤ sa) (h4 : sa ≤ pa) (g1 : 1 ≤ pb) (g2 : pb ≤ 38) (g3 : 0 ≤ sb) (g4 : sb ≤ pb) (hlo : mx (pa - sa) (pb - sb) + 1 + mx sa sb ≤ 38) :
    Calls Try.prog 15 #[.int .i64 0, .agg #[.int .u8 2, .int .i64 pa, .int .i64 sa, .int .i64 0, .int .i64 0, .int .i64 0], .agg #[.int .u8 2, .int .i64 pb, .int .i64 sb, .int .i64 0, .int .i64 0, .int .i64 0]] w fun e w' => e = .returned (.agg #[.int .u8 2, .int .i64 (mx (pa - sa) (pb - sb) + 1 + mx sa sb), .int .i64 (mx sa sb), .int .i64 0, .int .i64 0, .int .i64 0]) ∧ Grown w w' := by
  have m1 : mx sa sb ≤ 38 := mx_le (by omega) (by omega)
  have m2 : 0 ≤ mx sa sb := le_mx (by omega) (by omega)
  have m3 : mx (pa - sa) (pb - sb) ≤ 38 := mx_le (by omega) (by omega)
  have m4 : 0 ≤ mx (pa - sa) (pb - sb) := le_mx (by omega) (by omega)
  go_enter Try.func15, Try.ntmps15
  go_wp2
  go_region_held3 (fun W => W.cell? ⟨w.heap.size, 0, none⟩ = some (.int .u8 2) ∧ W.cell? ⟨w.heap.size, 1, none⟩ = some (.int .i64 pa) ∧ W.cell? ⟨w.heap.size, 2, none⟩ = some (.int .i64 sa) ∧ W.cell? ⟨w.heap.size, 3, none⟩ = some (.int .i64 0) ∧ W.cell? ⟨w.heap.size, 4, none⟩ = some (.int .i64 0) ∧ W.cell? ⟨w.heap.size, 5, none⟩ = some (.int .i64 0) ∧ W.cell? ⟨w.heap.size + 1, 0, none⟩ = some (.int .u8 2) ∧ W.cell? ⟨w.heap.size + 1, 1, none⟩ = some (.int .i64 pb) ∧ W.cell? ⟨w.heap.size + 1, 2, none⟩ = some (.int .i64 sb) ∧ W.cell? ⟨w.heap.size + 1, 3, none⟩ = some (.int .i64 0) ∧ W.cell? ⟨w.heap.size + 1, 4, none⟩ = some (.int .i64 0) ∧ W.cell? ⟨w.heap.size + 1, 5, none⟩ = some (.int .i64 0) ∧ W.cell? ⟨w.heap.size + 1 + 1 + 1, 2, none⟩ = some (.int .i64 (mx sa sb))) (first | (go_keep; done) | (refine ⟨?_, ?_, ?_, ?_, ?_, ?_, ?_, ?_, ?_, ?_, ?_, ?_, ?_⟩ <;> go_simp)) (first | (go_at_call 16; refine (integral_any _ _ _ _ _ _ _ ?_ ?_ ?_ ?_).mono ?_; (omega); (omega); (omega); (omega); rintro e w' ⟨rfl, rfl⟩))
  all_goals go_wp2
  all_goals exact bodyPost_ret (v := .agg #[.int .u8 2, .int .i64 (mx (pa - sa) (pb - sb) + 1 + mx sa sb), .int .i64 (mx sa sb), .int .i64 0, .int .i64 0, .int .i64 0]) (by simp [results, Try.results15, go_sem]) rfl ⟨rfl, by repeat (first | exact Grown.refl _ | apply Grown.drew | apply Grown.alloc)⟩

set_option maxHeartbeats 1000000 in
theorem add0_hi (pa sa pb sb : Int) (w : World) (h1 : 1 ≤ pa) (h2 : pa ≤ 38) (h3 : 0 ≤ sa) (h4 : sa ≤ pa) (g1 : 1 ≤ pb) (g2 : pb ≤ 38) (g3 : 0 ≤ sb) (g4 : sb ≤ pb) (hhi : 38 < mx (pa - sa) (pb - sb) + 1 + mx sa sb) :
    Calls Try.prog 15 #[.int .i64 0, .agg #[.int .u8 2, .int .i64 pa, .int .i64 sa, .int .i64 0, .int .i64 0, .int .i64 0], .agg #[.int .u8 2, .int .i64 pb, .int .i64 sb, .int .i64 0, .int .i64 0, .int .i64 0]] w fun e w' => e = .returned (.agg #[.int .u8 2, .int .i64 38, .int .i64 (38 - mx (pa - sa) (pb - sb)), .int .i64 0, .int .i64 0, .int .i64 0]) ∧ Grown w w' := by
  have m1 : mx sa sb ≤ 38 := mx_le (by omega) (by omega)
  have m2 : 0 ≤ mx sa sb := le_mx (by omega) (by omega)
  have m3 : mx (pa - sa) (pb - sb) ≤ 38 := mx_le (by omega) (by omega)
  have m4 : 0 ≤ mx (pa - sa) (pb - sb) := le_mx (by omega) (by omega)
  go_enter Try.func15, Try.ntmps15
  go_wp2
  go_region_held3 (fun W => W.cell? ⟨w.heap.size, 0, none⟩ = some (.int .u8 2) ∧ W.cell? ⟨w.heap.size, 1, none⟩ = some (.int .i64 pa) ∧ W.cell? ⟨w.heap.size, 2, none⟩ = some (.int .i64 sa) ∧ W.cell? ⟨w.heap.size, 3, none⟩ = some (.int .i64 0) ∧ W.cell? ⟨w.heap.size, 4, none⟩ = some (.int .i64 0) ∧ W.cell? ⟨w.heap.size, 5, none⟩ = some (.int .i64 0) ∧ W.cell? ⟨w.heap.size + 1, 0, none⟩ = some (.int .u8 2) ∧ W.cell? ⟨w.heap.size + 1, 1, none⟩ = some (.int .i64 pb) ∧ W.cell? ⟨w.heap.size + 1, 2, none⟩ = some (.int .i64 sb) ∧ W.cell? ⟨w.heap.size + 1, 3, none⟩ = some (.int .i64 0) ∧ W.cell? ⟨w.heap.size + 1, 4, none⟩ = some (.int .i64 0) ∧ W.cell? ⟨w.heap.size + 1, 5, none⟩ = some (.int .i64 0) ∧ W.cell? ⟨w.heap.size + 1 + 1 + 1, 2, none⟩ = some (.int .i64 (mx sa sb))) (first | (go_keep; done) | (refine ⟨?_, ?_, ?_, ?_, ?_, ?_, ?_, ?_, ?_, ?_, ?_, ?_, ?_⟩ <;> go_simp)) (first | (go_at_call 16; refine (integral_any _ _ _ _ _ _ _ ?_ ?_ ?_ ?_).mono ?_; (omega); (omega); (omega); (omega); rintro e w' ⟨rfl, rfl⟩))
  all_goals go_wp2
  go_region_held3 (fun W => W.cell? ⟨w.heap.size, 0, none⟩ = some (.int .u8 2) ∧ W.cell? ⟨w.heap.size, 1, none⟩ = some (.int .i64 pa) ∧ W.cell? ⟨w.heap.size, 2, none⟩ = some (.int .i64 sa) ∧ W.cell? ⟨w.heap.size, 3, none⟩ = some (.int .i64 0) ∧ W.cell? ⟨w.heap.size, 4, none⟩ = some (.int .i64 0) ∧ W.cell? ⟨w.heap.size, 5, none⟩ = some (.int .i64 0) ∧ W.cell? ⟨w.heap.size + 1, 0, none⟩ = some (.int .u8 2) ∧ W.cell? ⟨w.heap.size + 1, 1, none⟩ = some (.int .i64 pb) ∧ W.cell? ⟨w.heap.size + 1, 2, none⟩ = some (.int .i64 sb) ∧ W.cell? ⟨w.heap.size + 1, 3, none⟩ = some (.int .i64 0) ∧ W.cell? ⟨w.heap.size + 1, 4, none⟩ = some (.int .i64 0) ∧ W.cell? ⟨w.heap.size + 1, 5, none⟩ = some (.int .i64 0)) (first | (go_keep; done) | (refine ⟨?_, ?_, ?_, ?_, ?_, ?_, ?_, ?_, ?_, ?_, ?_, ?_⟩ <;> go_simp)) (first | (go_at_call 16; refine (integral_any _ _ _ _ _ _ _ ?_ ?_ ?_ ?_).mono ?_; (omega); (omega); (omega); (omega); rintro e w' ⟨rfl, rfl⟩))
  all_goals go_wp2
  all_goals exact bodyPost_ret (v := .agg #[.int .u8 2, .int .i64 38, .int .i64 (38 - mx (pa - sa) (pb - sb)), .int .i64 0, .int .i64 0, .int .i64 0]) (by simp [results, Try.results15, go_sem]) rfl ⟨rfl, by repeat (first | exact Grown.refl _ | apply Grown.drew | apply Grown.alloc)⟩

set_option maxHeartbeats 1000000 in
theorem add1_lo (pa sa pb sb : Int) (w : World) (h1 : 1 ≤ pa) (h2 : pa ≤ 38) (h3 : 0 ≤ sa) (h4 : sa ≤ pa) (g1 : 1 ≤ pb) (g2 : pb ≤ 38) (g3 : 0 ≤ sb) (g4 : sb ≤ pb) (hlo : mx (pa - sa) (pb - sb) + 1 + mx sa sb ≤ 38) :
    Calls Try.prog 15 #[.int .i64 1, .agg #[.int .u8 2, .int .i64 pa, .int .i64 sa, .int .i64 0, .int .i64 0, .int .i64 0], .agg #[.int .u8 2, .int .i64 pb, .int .i64 sb, .int .i64 0, .int .i64 0, .int .i64 0]] w fun e w' => e = .returned (.agg #[.int .u8 2, .int .i64 (mx (pa - sa) (pb - sb) + 1 + mx sa sb), .int .i64 (mx sa sb), .int .i64 0, .int .i64 0, .int .i64 0]) ∧ Grown w w' := by
  have m1 : mx sa sb ≤ 38 := mx_le (by omega) (by omega)
  have m2 : 0 ≤ mx sa sb := le_mx (by omega) (by omega)
  have m3 : mx (pa - sa) (pb - sb) ≤ 38 := mx_le (by omega) (by omega)
  have m4 : 0 ≤ mx (pa - sa) (pb - sb) := le_mx (by omega) (by omega)
  go_enter Try.func15, Try.ntmps15
  go_wp2
  go_region_held3 (fun W => W.cell? ⟨w.heap.size, 0, none⟩ = some (.int .u8 2) ∧ W.cell? ⟨w.heap.size, 1, none⟩ = some (.int .i64 pa) ∧ W.cell? ⟨w.heap.size, 2, none⟩ = some (.int .i64 sa) ∧ W.cell? ⟨w.heap.size, 3, none⟩ = some (.int .i64 0) ∧ W.cell? ⟨w.heap.size, 4, none⟩ = some (.int .i64 0) ∧ W.cell? ⟨w.heap.size, 5, none⟩ = some (.int .i64 0) ∧ W.cell? ⟨w.heap.size + 1, 0, none⟩ = some (.int .u8 2) ∧ W.cell? ⟨w.heap.size + 1, 1, none⟩ = some (.int .i64 pb) ∧ W.cell? ⟨w.heap.size + 1, 2, none⟩ = some (.int .i64 sb) ∧ W.cell? ⟨w.heap.size + 1, 3, none⟩ = some (.int .i64 0) ∧ W.cell? ⟨w.heap.size + 1, 4, none⟩ = some (.int .i64 0) ∧ W.cell? ⟨w.heap.size + 1, 5, none⟩ = some (.int .i64 0) ∧ W.cell? ⟨w.heap.size + 1 + 1 + 1, 2, none⟩ = some (.int .i64 (mx sa sb))) (first | (go_keep; done) | (refine ⟨?_, ?_, ?_, ?_, ?_, ?_, ?_, ?_, ?_, ?_, ?_, ?_, ?_⟩ <;> go_simp)) (first | (go_at_call 16; refine (integral_any _ _ _ _ _ _ _ ?_ ?_ ?_ ?_).mono ?_; (omega); (omega); (omega); (omega); rintro e w' ⟨rfl, rfl⟩))
  all_goals go_wp2
  all_goals exact bodyPost_ret (v := .agg #[.int .u8 2, .int .i64 (mx (pa - sa) (pb - sb) + 1 + mx sa sb), .int .i64 (mx sa sb), .int .i64 0, .int .i64 0, .int .i64 0]) (by simp [results, Try.results15, go_sem]) rfl ⟨rfl, by repeat (first | exact Grown.refl _ | apply Grown.drew | apply Grown.alloc)⟩

set_option maxHeartbeats 1000000 in
theorem add1_hi (pa sa pb sb : Int) (w : World) (h1 : 1 ≤ pa) (h2 : pa ≤ 38) (h3 : 0 ≤ sa) (h4 : sa ≤ pa) (g1 : 1 ≤ pb) (g2 : pb ≤ 38) (g3 : 0 ≤ sb) (g4 : sb ≤ pb) (hhi : 38 < mx (pa - sa) (pb - sb) + 1 + mx sa sb) :
    Calls Try.prog 15 #[.int .i64 1, .agg #[.int .u8 2, .int .i64 pa, .int .i64 sa, .int .i64 0, .int .i64 0, .int .i64 0], .agg #[.int .u8 2, .int .i64 pb, .int .i64 sb, .int .i64 0, .int .i64 0, .int .i64 0]] w fun e w' => e = .returned (.agg #[.int .u8 2, .int .i64 38, .int .i64 (38 - mx (pa - sa) (pb - sb)), .int .i64 0, .int .i64 0, .int .i64 0]) ∧ Grown w w' := by
  have m1 : mx sa sb ≤ 38 := mx_le (by omega) (by omega)
  have m2 : 0 ≤ mx sa sb := le_mx (by omega) (by omega)
  have m3 : mx (pa - sa) (pb - sb) ≤ 38 := mx_le (by omega) (by omega)
  have m4 : 0 ≤ mx (pa - sa) (pb - sb) := le_mx (by omega) (by omega)
  go_enter Try.func15, Try.ntmps15
  go_wp2
  go_region_held3 (fun W => W.cell? ⟨w.heap.size, 0, none⟩ = some (.int .u8 2) ∧ W.cell? ⟨w.heap.size, 1, none⟩ = some (.int .i64 pa) ∧ W.cell? ⟨w.heap.size, 2, none⟩ = some (.int .i64 sa) ∧ W.cell? ⟨w.heap.size, 3, none⟩ = some (.int .i64 0) ∧ W.cell? ⟨w.heap.size, 4, none⟩ = some (.int .i64 0) ∧ W.cell? ⟨w.heap.size, 5, none⟩ = some (.int .i64 0) ∧ W.cell? ⟨w.heap.size + 1, 0, none⟩ = some (.int .u8 2) ∧ W.cell? ⟨w.heap.size + 1, 1, none⟩ = some (.int .i64 pb) ∧ W.cell? ⟨w.heap.size + 1, 2, none⟩ = some (.int .i64 sb) ∧ W.cell? ⟨w.heap.size + 1, 3, none⟩ = some (.int .i64 0) ∧ W.cell? ⟨w.heap.size + 1, 4, none⟩ = some (.int .i64 0) ∧ W.cell? ⟨w.heap.size + 1, 5, none⟩ = some (.int .i64 0) ∧ W.cell? ⟨w.heap.size + 1 + 1 + 1, 2, none⟩ = some (.int .i64 (mx sa sb))) (first | (go_keep; done) | (refine ⟨?_, ?_, ?_, ?_, ?_, ?_, ?_, ?_, ?_, ?_, ?_, ?_, ?_⟩ <;> go_simp)) (first | (go_at_call 16; refine (integral_any _ _ _ _ _ _ _ ?_ ?_ ?_ ?_).mono ?_; (omega); (omega); (omega); (omega); rintro e w' ⟨rfl, rfl⟩))
  all_goals go_wp2
  go_region_held3 (fun W => W.cell? ⟨w.heap.size, 0, none⟩ = some (.int .u8 2) ∧ W.cell? ⟨w.heap.size, 1, none⟩ = some (.int .i64 pa) ∧ W.cell? ⟨w.heap.size, 2, none⟩ = some (.int .i64 sa) ∧ W.cell? ⟨w.heap.size, 3, none⟩ = some (.int .i64 0) ∧ W.cell? ⟨w.heap.size, 4, none⟩ = some (.int .i64 0) ∧ W.cell? ⟨w.heap.size, 5, none⟩ = some (.int .i64 0) ∧ W.cell? ⟨w.heap.size + 1, 0, none⟩ = some (.int .u8 2) ∧ W.cell? ⟨w.heap.size + 1, 1, none⟩ = some (.int .i64 pb) ∧ W.cell? ⟨w.heap.size + 1, 2, none⟩ = some (.int .i64 sb) ∧ W.cell? ⟨w.heap.size + 1, 3, none⟩ = some (.int .i64 0) ∧ W.cell? ⟨w.heap.size + 1, 4, none⟩ = some (.int .i64 0) ∧ W.cell? ⟨w.heap.size + 1, 5, none⟩ = some (.int .i64 0)) (first | (go_keep; done) | (refine ⟨?_, ?_, ?_, ?_, ?_, ?_, ?_, ?_, ?_, ?_, ?_, ?_⟩ <;> go_simp)) (first | (go_at_call 16; refine (integral_any _ _ _ _ _ _ _ ?_ ?_ ?_ ?_).mono ?_; (omega); (omega); (omega); (omega); rintro e w' ⟨rfl, rfl⟩))
  all_goals go_wp2
  all_goals exact bodyPost_ret (v := .agg #[.int .u8 2, .int .i64 38, .int .i64 (38 - mx (pa - sa) (pb - sb)), .int .i64 0, .int .i64 0, .int .i64 0]) (by simp [results, Try.results15, go_sem]) rfl ⟨rfl, by repeat (first | exact Grown.refl _ | apply Grown.drew | apply Grown.alloc)⟩

set_option maxHeartbeats 1000000 in
theorem mul_lo (pa sa pb sb : Int) (w : World) (h1 : 1 ≤ pa) (h2 : pa ≤ 38) (h3 : 0 ≤ sa) (h4 : sa ≤ pa) (g1 : 1 ≤ pb) (g2 : pb ≤ 38) (g3 : 0 ≤ sb) (g4 : sb ≤ pb) (hlo : pa + pb + 1 ≤ 38) :
    Calls Try.prog 15 #[.int .i64 2, .agg #[.int .u8 2, .int .i64 pa, .int .i64 sa, .int .i64 0, .int .i64 0, .int .i64 0], .agg #[.int .u8 2, .int .i64 pb, .int .i64 sb, .int .i64 0, .int .i64 0, .int .i64 0]] w fun e w' => e = .returned (.agg #[.int .u8 2, .int .i64 (pa + pb + 1), .int .i64 (sa + sb), .int .i64 0, .int .i64 0, .int .i64 0]) ∧ Grown w w' := by
  go_enter Try.func15, Try.ntmps15
  go_wp2
  go_region_held3 (fun W => W.cell? ⟨w.heap.size, 1, none⟩ = some (.int .i64 pa) ∧ W.cell? ⟨w.heap.size, 2, none⟩ = some (.int .i64 sa) ∧ W.cell? ⟨w.heap.size + 1, 1, none⟩ = some (.int .i64 pb) ∧ W.cell? ⟨w.heap.size + 1, 2, none⟩ = some (.int .i64 sb)) (first | (go_keep; done) | (refine ⟨?_, ?_, ?_, ?_⟩ <;> go_simp)) (first | (go_at_call 16; refine (integral_any _ _ _ _ _ _ _ ?_ ?_ ?_ ?_).mono ?_; (omega); (omega); (omega); (omega); rintro e w' ⟨rfl, rfl⟩))
  all_goals go_wp2
  all_goals exact bodyPost_ret (v := .agg #[.int .u8 2, .int .i64 (pa + pb + 1), .int .i64 (sa + sb), .int .i64 0, .int .i64 0, .int .i64 0]) (by simp [results, Try.results15, go_sem]) rfl ⟨rfl, by repeat (first | exact Grown.refl _ | apply Grown.drew | apply Grown.alloc)⟩

set_option maxHeartbeats 1000000 in
theorem mul_hi (pa sa pb sb : Int) (w : World) (h1 : 1 ≤ pa) (h2 : pa ≤ 38) (h3 : 0 ≤ sa) (h4 : sa ≤ pa) (g1 : 1 ≤ pb) (g2 : pb ≤ 38) (g3 : 0 ≤ sb) (g4 : sb ≤ pb) (hhi : 38 < pa + pb + 1) :
    Calls Try.prog 15 #[.int .i64 2, .agg #[.int .u8 2, .int .i64 pa, .int .i64 sa, .int .i64 0, .int .i64 0, .int .i64 0], .agg #[.int .u8 2, .int .i64 pb, .int .i64 sb, .int .i64 0, .int .i64 0, .int .i64 0]] w fun e w' => e = .returned (.agg #[.int .u8 2, .int .i64 38, .int .i64 (mn (sa + sb) (mx 6 (38 - (pa + pb + 1 - (sa + sb))))), .int .i64 0, .int .i64 0, .int .i64 0]) ∧ Grown w w' := by
  have m1 : mx 6 (38 - (pa + pb + 1 - (sa + sb))) ≤ 200 := mx_le (by omega) (by omega)
  have m2 : 6 ≤ mx 6 (38 - (pa + pb + 1 - (sa + sb))) := by unfold mx; split <;> omega
  go_enter Try.func15, Try.ntmps15
  go_wp2
  go_region_held3 (fun W => W.cell? ⟨w.heap.size, 1, none⟩ = some (.int .i64 pa) ∧ W.cell? ⟨w.heap.size, 2, none⟩ = some (.int .i64 sa) ∧ W.cell? ⟨w.heap.size + 1, 1, none⟩ = some (.int .i64 pb) ∧ W.cell? ⟨w.heap.size + 1, 2, none⟩ = some (.int .i64 sb)) (first | (go_keep; done) | (refine ⟨?_, ?_, ?_, ?_⟩ <;> go_simp)) (first | (go_at_call 16; refine (integral_any _ _ _ _ _ _ _ ?_ ?_ ?_ ?_).mono ?_; (omega); (omega); (omega); (omega); rintro e w' ⟨rfl, rfl⟩))
  all_goals go_wp2
  go_region_with (first | (go_at_call 16; refine (integral_any _ _ _ _ _ _ _ ?_ ?_ ?_ ?_).mono ?_; (omega); (omega); (omega); (omega); rintro e w' ⟨rfl, rfl⟩))
  all_goals go_wp2
  all_goals exact bodyPost_ret (v := .agg #[.int .u8 2, .int .i64 38, .int .i64 (mn (sa + sb) (mx 6 (38 - (pa + pb + 1 - (sa + sb))))), .int .i64 0, .int .i64 0, .int .i64 0]) (by simp [results, Try.results15, go_sem]) rfl ⟨rfl, by repeat (first | exact Grown.refl _ | apply Grown.drew | apply Grown.alloc)⟩

set_option maxHeartbeats 1000000 in
theorem div_lo (pa sa pb sb : Int) (w : World) (h1 : 1 ≤ pa) (h2 : pa ≤ 38) (h3 : 0 ≤ sa) (h4 : sa ≤ pa) (g1 : 1 ≤ pb) (g2 : pb ≤ 38) (g3 : 0 ≤ sb) (g4 : sb ≤ pb) (hlo : pa - sa + sb + mx 6 (sa + pb + 1) ≤ 38) :
    Calls Try.prog 15 #[.int .i64 3, .agg #[.int .u8 2, .int .i64 pa, .int .i64 sa, .int .i64 0, .int .i64 0, .int .i64 0], .agg #[.int .u8 2, .int .i64 pb, .int .i64 sb, .int .i64 0, .int .i64 0, .int .i64 0]] w fun e w' => e = .returned (.agg #[.int .u8 2, .int .i64 (pa - sa + sb + mx 6 (sa + pb + 1)), .int .i64 (mx 6 (sa + pb + 1)), .int .i64 0, .int .i64 0, .int .i64 0]) ∧ Grown w w' := by
  have m1 : mx 6 (sa + pb + 1) ≤ 200 := mx_le (by omega) (by omega)
  have m2 : 6 ≤ mx 6 (sa + pb + 1) := by unfold mx; split <;> omega
  go_enter Try.func15, Try.ntmps15
  go_wp2
  go_region_held3 (fun W => W.cell? ⟨w.heap.size, 0, none⟩ = some (.int .u8 2) ∧ W.cell? ⟨w.heap.size, 1, none⟩ = some (.int .i64 pa) ∧ W.cell? ⟨w.heap.size, 2, none⟩ = some (.int .i64 sa) ∧ W.cell? ⟨w.heap.size, 3, none⟩ = some (.int .i64 0) ∧ W.cell? ⟨w.heap.size, 4, none⟩ = some (.int .i64 0) ∧ W.cell? ⟨w.heap.size, 5, none⟩ = some (.int .i64 0) ∧ W.cell? ⟨w.heap.size + 1, 2, none⟩ = some (.int .i64 sb) ∧ W.cell? ⟨w.heap.size + 1 + 1 + 1, 2, none⟩ = some (.int .i64 (mx 6 (sa + pb + 1)))) (first | (go_keep; done) | (refine ⟨?_, ?_, ?_, ?_, ?_, ?_, ?_, ?_⟩ <;> go_simp)) (first | (go_at_call 16; refine (integral_any _ _ _ _ _ _ _ ?_ ?_ ?_ ?_).mono ?_; (omega); (omega); (omega); (omega); rintro e w' ⟨rfl, rfl⟩))
  all_goals go_wp2
  all_goals exact bodyPost_ret (v := .agg #[.int .u8 2, .int .i64 (pa - sa + sb + mx 6 (sa + pb + 1)), .int .i64 (mx 6 (sa + pb + 1)), .int .i64 0, .int .i64 0, .int .i64 0]) (by simp [results, Try.results15, go_sem]) rfl ⟨rfl, by repeat (first | exact Grown.refl _ | apply Grown.drew | apply Grown.alloc)⟩

set_option maxHeartbeats 1000000 in
theorem div_hi (pa sa pb sb : Int) (w : World) (h1 : 1 ≤ pa) (h2 : pa ≤ 38) (h3 : 0 ≤ sa) (h4 : sa ≤ pa) (g1 : 1 ≤ pb) (g2 : pb ≤ 38) (g3 : 0 ≤ sb) (g4 : sb ≤ pb) (hhi : 38 < pa - sa + sb + mx 6 (sa + pb + 1)) :
    Calls Try.prog 15 #[.int .i64 3, .agg #[.int .u8 2, .int .i64 pa, .int .i64 sa, .int .i64 0, .int .i64 0, .int .i64 0], .agg #[.int .u8 2, .int .i64 pb, .int .i64 sb, .int .i64 0, .int .i64 0, .int .i64 0]] w fun e w' => e = .returned (.agg #[.int .u8 2, .int .i64 38, .int .i64 (mn (mx 6 (sa + pb + 1)) (mx 6 (38 - (pa - sa + sb + mx 6 (sa + pb + 1) - mx 6 (sa + pb + 1))))), .int .i64 0, .int .i64 0, .int .i64 0]) ∧ Grown w w' := by
  have m1 : mx 6 (sa + pb + 1) ≤ 200 := mx_le (by omega) (by omega)
  have m2 : 6 ≤ mx 6 (sa + pb + 1) := by unfold mx; split <;> omega
  have m3 : mx 6 (38 - (pa - sa + sb + mx 6 (sa + pb + 1) - mx 6 (sa + pb + 1))) ≤ 400 := mx_le (by omega) (by omega)
  have m4 : 6 ≤ mx 6 (38 - (pa - sa + sb + mx 6 (sa + pb + 1) - mx 6 (sa + pb + 1))) := by unfold mx; split <;> omega
  go_enter Try.func15, Try.ntmps15
  go_wp2
  go_region_held3 (fun W => W.cell? ⟨w.heap.size, 0, none⟩ = some (.int .u8 2) ∧ W.cell? ⟨w.heap.size, 1, none⟩ = some (.int .i64 pa) ∧ W.cell? ⟨w.heap.size, 2, none⟩ = some (.int .i64 sa) ∧ W.cell? ⟨w.heap.size, 3, none⟩ = some (.int .i64 0) ∧ W.cell? ⟨w.heap.size, 4, none⟩ = some (.int .i64 0) ∧ W.cell? ⟨w.heap.size, 5, none⟩ = some (.int .i64 0) ∧ W.cell? ⟨w.heap.size + 1, 2, none⟩ = some (.int .i64 sb) ∧ W.cell? ⟨w.heap.size + 1 + 1 + 1, 2, none⟩ = some (.int .i64 (mx 6 (sa + pb + 1)))) (first | (go_keep; done) | (refine ⟨?_, ?_, ?_, ?_, ?_, ?_, ?_, ?_⟩ <;> go_simp)) (first | (go_at_call 16; refine (integral_any _ _ _ _ _ _ _ ?_ ?_ ?_ ?_).mono ?_; (omega); (omega); (omega); (omega); rintro e w' ⟨rfl, rfl⟩))
  all_goals go_wp2
  go_region_with (first | (go_at_call 16; refine (integral_any _ _ _ _ _ _ _ ?_ ?_ ?_ ?_).mono ?_; (omega); (omega); (omega); (omega); rintro e w' ⟨rfl, rfl⟩))
  all_goals go_wp2
  all_goals exact bodyPost_ret (v := .agg #[.int .u8 2, .int .i64 38, .int .i64 (mn (mx 6 (sa + pb + 1)) (mx 6 (38 - (pa - sa + sb + mx 6 (sa + pb + 1) - mx 6 (sa + pb + 1))))), .int .i64 0, .int .i64 0, .int .i64 0]) (by simp [results, Try.results15, go_sem]) rfl ⟨rfl, by repeat (first | exact Grown.refl _ | apply Grown.drew | apply Grown.alloc)⟩

set_option maxHeartbeats 1000000 in
theorem mod_any (pa sa pb sb : Int) (w : World) (h1 : 1 ≤ pa) (h2 : pa ≤ 38) (h3 : 0 ≤ sa) (h4 : sa ≤ pa) (g1 : 1 ≤ pb) (g2 : pb ≤ 38) (g3 : 0 ≤ sb) (g4 : sb ≤ pb) :
    Calls Try.prog 15 #[.int .i64 4, .agg #[.int .u8 2, .int .i64 pa, .int .i64 sa, .int .i64 0, .int .i64 0, .int .i64 0], .agg #[.int .u8 2, .int .i64 pb, .int .i64 sb, .int .i64 0, .int .i64 0, .int .i64 0]] w fun e w' => e = .returned (.agg #[.int .u8 2, .int .i64 (mn (pa - sa) (pb - sb) + mx sa sb), .int .i64 (mx sa sb), .int .i64 0, .int .i64 0, .int .i64 0]) ∧ Grown w w' := by
  have m1 : mx sa sb ≤ 38 := mx_le (by omega) (by omega)
  have m2 : 0 ≤ mx sa sb := le_mx (by omega) (by omega)
  have m3 : mn (pa - sa) (pb - sb) ≤ 38 := mn_le (by omega) (by omega)
  have m4 : 0 ≤ mn (pa - sa) (pb - sb) := le_mn (by omega) (by omega)
  have m5 : mn (pa - sa) (pb - sb) + mx sa sb ≤ 38 := by unfold mn mx; split <;> split <;> omega
  go_enter Try.func15, Try.ntmps15
  go_wp2
  go_region_held3 (fun W => W.cell? ⟨w.heap.size, 0, none⟩ = some (.int .u8 2) ∧ W.cell? ⟨w.heap.size, 1, none⟩ = some (.int .i64 pa) ∧ W.cell? ⟨w.heap.size, 2, none⟩ = some (.int .i64 sa) ∧ W.cell? ⟨w.heap.size, 3, none⟩ = some (.int .i64 0) ∧ W.cell? ⟨w.heap.size, 4, none⟩ = some (.int .i64 0) ∧ W.cell? ⟨w.heap.size, 5, none⟩ = some (.int .i64 0) ∧ W.cell? ⟨w.heap.size + 1, 0, none⟩ = some (.int .u8 2) ∧ W.cell? ⟨w.heap.size + 1, 1, none⟩ = some (.int .i64 pb) ∧ W.cell? ⟨w.heap.size + 1, 2, none⟩ = some (.int .i64 sb) ∧ W.cell? ⟨w.heap.size + 1, 3, none⟩ = some (.int .i64 0) ∧ W.cell? ⟨w.heap.size + 1, 4, none⟩ = some (.int .i64 0) ∧ W.cell? ⟨w.heap.size + 1, 5, none⟩ = some (.int .i64 0) ∧ W.cell? ⟨w.heap.size + 1 + 1 + 1, 2, none⟩ = some (.int .i64 (mx sa sb))) (first | (go_keep; done) | (refine ⟨?_, ?_, ?_, ?_, ?_, ?_, ?_, ?_, ?_, ?_, ?_, ?_, ?_⟩ <;> go_simp)) (first | (go_at_call 16; refine (integral_any _ _ _ _ _ _ _ ?_ ?_ ?_ ?_).mono ?_; (omega); (omega); (omega); (omega); rintro e w' ⟨rfl, rfl⟩))
  all_goals go_wp2
  all_goals exact bodyPost_ret (v := .agg #[.int .u8 2, .int .i64 (mn (pa - sa) (pb - sb) + mx sa sb), .int .i64 (mx sa sb), .int .i64 0, .int .i64 0, .int .i64 0]) (by simp [results, Try.results15, go_sem]) rfl ⟨rfl, by repeat (first | exact Grown.refl _ | apply Grown.drew | apply Grown.alloc)⟩

end Go.Proofs.Qxb6605203a.Arith
