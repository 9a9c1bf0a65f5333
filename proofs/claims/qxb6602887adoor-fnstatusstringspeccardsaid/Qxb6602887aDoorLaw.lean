import Derived.Test.Qxb6602887aDoorCanon
import Derived.Test.Qxb6602887aDoorShelf
import Derived.Lib.ItoaLen
namespace Go.Proofs.Qxb6602887aDoor.Num
open Go Go.RowKit Go.Lib
set_option linter.unusedVariables false
set_option maxRecDepth 100000

theorem below_grow (w : World) (k : Nat) (os : Array Obj) : Below w.heap.size w (Sort.grow (w.drewN k) os) := by
  refine ⟨rfl, rfl, rfl, ?_, fun i hi => ?_⟩
  · show w.heap.size ≤ (w.heap ++ os).size
    rw [Array.size_append]; omega
  · show (w.heap ++ os)[i]? = w.heap[i]?
    rw [Array.getElem?_append_left hi]

/-- what String gives at a number of no name -/
def stat (n : Int) : ByteArray := ⟨#[83, 116, 97, 116, 117, 115, 40]⟩ ++ ⟨(itoa n).toArray⟩ ++ ⟨#[41]⟩

set_option maxHeartbeats 400000 in
theorem string_big (n : Int) (w : World) (s : ByteArray) (hl : s.size ≤ 21) (n0 : (n == 0) = false) (n1 : (n == 1) = false) (n2 : (n == 2) = false) (n3 : (n == 3) = false)
    (hI : Hid (Calls Tryd.prog 7 #[.int .i64 n] w fun e w' => e = .returned (.string s) ∧ Below w.heap.size w w')) :
    Calls Tryd.prog 5 #[.int .i64 n] w fun e w' => e = .returned (.string (⟨#[83, 116, 97, 116, 117, 115, 40]⟩ ++ s ++ ⟨#[41]⟩)) ∧ Below w.heap.size w w' := by
  go_enter Tryd.func5, Tryd.ntmps5
  go_wp2_with fail
  refine hI.out.mono ?_
  rintro e w1 ⟨rfl, hg⟩
  go_wp2
  go_ret
  exact ⟨rfl, hg⟩

set_option maxHeartbeats 400000 in
theorem law_big (n : Int) (w : World) (g : ByteArray) (hl : g.size ≤ 40) (h9 : 9 ≤ g.size) (n0 : (n == 0) = false) (n1 : (n == 1) = false) (n2 : (n == 2) = false) (n3 : (n == 3) = false)
    (f1 : (!(g.extract 0 7).toList == [83, 116, 97, 116, 117, 115, 40]) = false) (f2 : ((g[g.size - 1].toNat : Int) != 41) = false)
    (hI : Hid (Calls Tryd.prog 5 #[.int .i64 n] w fun e w' => e = .returned (.string g) ∧ Below w.heap.size w w'))
    (hC : Hid (∀ w, Calls Tryd.prog 6 #[.string (g.extract 7 (g.size - 1)), .int .i64 n] w fun e w' => e = .returned (.bool true) ∧ w' = w)) :
    Calls Tryd.prog 3 #[.int .i64 n] w fun e w' => e = .returned (.bool true) ∧ Below w.heap.size w w' := by
  go_enter Tryd.func3, Tryd.ntmps3
  go_wp2_with fail
  refine hI.out.mono ?_
  rintro e w1 ⟨rfl, hb⟩
  go_wp2_with fail
  refine (hC.out _).mono ?_
  rintro e w2 ⟨rfl, rfl⟩
  go_wp2
  go_ret
  exact ⟨rfl, hb⟩

set_option maxHeartbeats 400000 in
theorem law_small (n : Int) (w : World) (h : n = 0 ∨ n = 1 ∨ n = 2 ∨ n = 3) :
    Calls Tryd.prog 3 #[.int .i64 n] w fun e w' => e = .returned (.bool true) ∧ Below w.heap.size w w' := by
  rcases h with rfl | rfl | rfl | rfl
  all_goals
    go_enter Tryd.func3, Tryd.ntmps3
    go_wp2
    go_ret
    exact ⟨rfl, Below.refl _ _⟩

/-! ### the plain facts on the text -/
theorem stat_size (n : Int) : (stat n).size = (itoa n).length + 8 := by
  unfold stat
  rw [ByteArray.size_append, ByteArray.size_append]
  show 7 + (itoa n).toArray.size + 1 = _
  rw [List.size_toArray]; omega
theorem stat_data (n : Int) : (stat n).data.toList = [83, 116, 97, 116, 117, 115, 40] ++ itoa n ++ [41] := by
  unfold stat
  rw [ByteArray.data_append, ByteArray.data_append, Array.toList_append, Array.toList_append]
theorem stat_head (n : Int) : (!((stat n).extract 0 7).toList == [83, 116, 97, 116, 117, 115, 40]) = false := by
  have e : ((stat n).extract 0 7).toList = [83, 116, 97, 116, 117, 115, 40] := by
    rw [ByteArray.toList_eq, ByteArray.data_extract, Array.toList_extract, stat_data]
    simp [List.extract]
  rw [e]; rfl
theorem stat_last (n : Int) (h : (stat n).size - 1 < (stat n).size) : (((stat n)[(stat n).size - 1]).toNat : Int) = 41 := by
  have hs := stat_size n
  have e : (stat n)[(stat n).size - 1] = 41 := by
    have h1 : (stat n).data.toList[(stat n).size - 1]? = some 41 := by
      rw [stat_data, List.getElem?_append_right (by simp; omega)]
      simp [hs]
    have h2 : (stat n).data.toList[(stat n).size - 1]? = some ((stat n)[(stat n).size - 1]) := by
      rw [List.getElem?_eq_getElem (by rw [Array.length_toList]; exact h)]
      rfl
    rw [h2] at h1
    exact Option.some.inj h1
  rw [e]; rfl
theorem stat_mid (n : Int) : (stat n).extract 7 ((stat n).size - 1) = ⟨(itoa n).toArray⟩ := by
  apply ByteArray.ext
  rw [ByteArray.data_extract]
  apply Array.toList_inj.1
  rw [Array.toList_extract, stat_data, stat_size]
  simp [List.extract]
end Go.Proofs.Qxb6602887aDoor.Num
