import Derived.Test.Qxb6602887aDoorLaw
namespace Go.Proofs.Qxb6602887aDoor.Num
open Go Go.RowKit Go.Lib
set_option linter.unusedVariables false
set_option maxRecDepth 100000

/-- the listed table's name, off the row -/
def tabName : String := (Rows.fnStatusStringSpecRow.laid.map (·.1)).getD 2 ""

theorem get_list (l : List UInt8) (k : Nat) (h : k < (⟨l.toArray⟩ : ByteArray).size) (h' : k < l.length) : (⟨l.toArray⟩ : ByteArray)[k] = l[k] := rfl
theorem size_list (l : List UInt8) : (⟨l.toArray⟩ : ByteArray).size = l.length := List.size_toArray
theorem digs_of (u : Nat) (hl : (decDigits u).length ≤ 1000) (hu : u ≤ 9223372036854775808) : Digs ⟨(decDigits u).toArray⟩ u where
  pos := by rw [size_list]; exact dec_pos u
  le := by rw [size_list]; exact hl
  dig := fun k h => by
    have h' : k < (decDigits u).length := by rw [← size_list]; exact h
    rw [get_list _ k h h']
    exact dec_digit u _ (List.getElem_mem h')
  head := fun h1 h => by
    have h' : 0 < (decDigits u).length := dec_pos u
    rw [get_list _ 0 h h']
    exact dec_head u (dec_one u (by rw [← size_list]; exact h1)) h'
  val := val_dec u
  lt := hu

theorem canon_any (n : Int) (h0 : -9223372036854775808 ≤ n) (h1 : n ≤ 9223372036854775807) (w : World) :
    Calls Tryd.prog 6 #[.string ⟨(itoa n).toArray⟩, .int .i64 n] w fun e w' => e = .returned (.bool true) ∧ w' = w := by
  have hlen := itoa_length_le n h0 h1
  by_cases hn : n < 0
  · have e : itoa n = 45 :: decDigits n.natAbs := by unfold itoa; rw [if_pos hn]
    rw [e] at hlen ⊢
    have hl : (decDigits n.natAbs).length ≤ 1000 := by simp at hlen; omega
    refine canon_neg n.natAbs _ ⟨(decDigits n.natAbs).toArray⟩ n w (digs_of n.natAbs hl (by omega)) ?_ ?_ ?_ (by omega) (by omega)
    · apply ByteArray.ext
      rw [ByteArray.data_extract]
      apply Array.toList_inj.1
      rw [Array.toList_extract, size_list]
      simp [List.extract]
    · rw [size_list, size_list]; rfl
    · intro h; rfl
  · have e : itoa n = decDigits n.toNat := by unfold itoa; rw [if_neg hn]
    rw [e] at hlen ⊢
    exact canon_pos n.toNat _ n w (digs_of n.toNat (by omega) (by omega)) (by omega) h1

theorem law_any (n : Int) (h0 : -9223372036854775808 ≤ n) (h1 : n ≤ 9223372036854775807) (w : World) (htab : TabIs Tryd.prog w tabName .u64 pow10Tab) :
    Calls Tryd.prog 3 #[.int .i64 n] w fun e w' => e = .returned (.bool true) ∧ Below w.heap.size w w' := by
  by_cases hs : n = 0 ∨ n = 1 ∨ n = 2 ∨ n = 3
  · exact law_small n w hs
  · have n0 : (n == 0) = false := by rw [beq_eq_false_iff_ne]; omega
    have n1 : (n == 1) = false := by rw [beq_eq_false_iff_ne]; omega
    have n2 : (n == 2) = false := by rw [beq_eq_false_iff_ne]; omega
    have n3 : (n == 3) = false := by rw [beq_eq_false_iff_ne]; omega
    have hlen := itoa_length_le n h0 h1
    have hpos : 0 < (itoa n).length := by
      unfold itoa
      split
      · exact Nat.succ_pos _
      · exact dec_pos _
    have hI : Calls Tryd.prog 7 #[.int .i64 n] w fun e w' => e = .returned (.string ⟨(itoa n).toArray⟩) ∧ Below w.heap.size w w' := by
      have hk := Any.strconv_Itoa Tryd.laysM171 n h0 h1 w htab
      refine Calls.mono (P := Tryd.prog) (show Calls Tryd.prog 7 #[.int .i64 n] w _ from hk) ?_
      rintro e w' ⟨he, k, os, hw⟩
      subst hw
      exact ⟨he, below_grow w k os⟩
    have hst : Calls Tryd.prog 5 #[.int .i64 n] w fun e w' => e = .returned (.string (stat n)) ∧ Below w.heap.size w w' :=
      string_big n w _ (by rw [size_list]; exact hlen) n0 n1 n2 n3 hI
    have hsz := stat_size n
    refine law_big n w (stat n) (by omega) (by omega) n0 n1 n2 n3 (stat_head n) ?_ hst ?_
    · have := stat_last n (by omega)
      rw [this]; rfl
    · intro w'
      rw [stat_mid]
      exact canon_any n h0 h1 w'
end Go.Proofs.Qxb6602887aDoor.Num
