import Derived.Test.Qxb6602887aDoorRows
import Derived.Test.Qxb6602887aDoorPlain
import Derived.WalkKit
import Derived.WalkSpells
import Derived.WalkLawsBesides
import Derived.RowKit3
import Derived.Outline
namespace Go.Proofs.Qxb6602887aDoor.Num
open Go Go.RowKit Go.Lib
set_option linter.unusedVariables false
set_option maxRecDepth 100000

/-- a string of digits without a leading zero, and the number that it says -/
structure Digs (s : ByteArray) (u : Nat) : Prop where
  pos : 0 < s.size
  le : s.size ≤ 1000
  dig : ∀ k (h : k < s.size), 48 ≤ s[k].toNat ∧ s[k].toNat ≤ 57
  head : 1 < s.size → ∀ (h : 0 < s.size), 49 ≤ s[0].toNat
  val : valOf s.data.toList = u
  lt : u ≤ 9223372036854775808

theorem step_of {s : ByteArray} {u : Nat} (D : Digs s u) (k : Nat) (h : k < s.size) : valOf (s.data.toList.take (k + 1)) = valOf (s.data.toList.take k) * 10 + (s[k].toNat - 48) :=
  val_step s.data.toList k (by simpa using h)
theorem le_of {s : ByteArray} {u : Nat} (D : Digs s u) (k : Nat) : valOf (s.data.toList.take k) ≤ u := by
  have := val_take s.data.toList k
  rw [D.val] at this
  exact this

theorem ret_bool {a b : Bool} (h : a = b) : Ending.returned (.bool a) = .returned (.bool b) := by rw [h]
theorem wrap_u64' (x : Int) : IntKind.u64.wrap x = x % 18446744073709551616 := by simp [IntKind.wrap, IntKind.bits, IntKind.signed]
theorem neg_mag (a n : Int) (u : Nat) (ha : a = u) (hn : n = -(u : Int)) (u1 : 1 ≤ u) (u2 : u ≤ 9223372036854775808) : (a == IntKind.u64.wrap (-IntKind.u64.wrap n)) = true := by
  rw [beq_iff_eq, wrap_u64', wrap_u64']; omega
theorem size_ne {s : ByteArray} (h : 0 < s.size) : ((s.size : Int) == 0) = false := by rw [beq_eq_false_iff_ne]; omega
theorem byte_ne {c : UInt8} {x : Int} (h : (c.toNat : Int) ≠ x) : ((c.toNat : Int) == x) = false := by rw [beq_eq_false_iff_ne]; exact h

set_option maxHeartbeats 1000000 in
theorem canon_pos (u : Nat) (s : ByteArray) (n : Int) (w : World) (D : Digs s u) (hn : n = u) (n1 : n ≤ 9223372036854775807) :
    Calls Tryd.prog 6 #[.string s, .int .i64 n] w fun e w' => e = .returned (.bool true) ∧ w' = w := by
  have h0 : 0 < s.size := D.pos
  have hm : s.size ≤ 1000 := D.le
  have HD : Hid (Digs s u) := D
  have HN : Hid (n = u) := hn
  have n0 : 0 ≤ n := by omega
  have hg := D.dig 0 h0
  have e0 := size_ne h0
  have e1 : ((s[0].toNat : Int) == 45) = false := byte_ne (by omega)
  have e2 : 1 < s.size → ((s[0].toNat : Int) == 48) = false := fun h => byte_ne (by have := D.head h h0; omega)
  clear hg hn D
  by_cases h1 : 1 < s.size
  · have e3 := e2 h1
    clear e2
    go_enter Tryd.func6, Tryd.ntmps6
    go_wp2
    go_loop [7, 8] (fun v i => ∃ (k : Nat) (a : Int), k ≤ s.size ∧ i = .int .i64 k ∧ v = .int .u64 a ∧ 0 ≤ a ∧ a ≤ 9223372036854775808 ∧ Hid (a = valOf (s.data.toList.take k))) (fun _ i => s.size - (intOf i).toNat)
    case atStart => exact ⟨0, 0, Nat.zero_le _, rfl, rfl, by omega, by omega, rfl⟩
    case round =>
      obtain ⟨k, a, hk, rfl, rfl, a0, a1, ha⟩ := hrel
      by_cases hlt : k < s.size
      · have hd := HD.out.dig k hlt
        have hs := step_of HD.out k hlt
        have hl := le_of HD.out (k + 1)
        have ht := HD.out.lt
        obtain ⟨c, hc⟩ : ∃ c : Int, (s[k].toNat : Int) = c := ⟨_, rfl⟩
        have c0 : 48 ≤ c := by omega
        have c1 : c ≤ 57 := by omega
        have ha' := ha.out
        have s1 : a * 10 + (c - 48) ≤ 9223372036854775808 := by omega
        have s2 : a ≤ 1844674407370955161 := by omega
        have HS : Hid ((a * 10 + (c - 48) : Int) = (valOf (s.data.toList.take (k + 1)) : Nat)) := by show _ = _; omega
        clear hd hs hl ht ha'
        go_wp2
        go_round
        case rel => exact ⟨k + 1, a * 10 + (c - 48), by omega, by go_num, rfl, by omega, s1, HS⟩
        case measure => simp [intOf]; omega
      · have hv : a = u := by
          have := ha.out
          rw [List.take_of_length_le (by rw [Array.length_toList]; exact Nat.le_of_not_lt hlt), HD.out.val] at this
          exact this
        have e : (a == n) = true := by rw [beq_iff_eq]; have := HN.out; omega
        clear hv
        go_wp2
        go_ret
        exact ⟨rfl, rfl⟩
  · clear e2
    go_enter Tryd.func6, Tryd.ntmps6
    go_wp2
    go_loop [7, 8] (fun v i => ∃ (k : Nat) (a : Int), k ≤ s.size ∧ i = .int .i64 k ∧ v = .int .u64 a ∧ 0 ≤ a ∧ a ≤ 9223372036854775808 ∧ Hid (a = valOf (s.data.toList.take k))) (fun _ i => s.size - (intOf i).toNat)
    case atStart => exact ⟨0, 0, Nat.zero_le _, rfl, rfl, by omega, by omega, rfl⟩
    case round =>
      obtain ⟨k, a, hk, rfl, rfl, a0, a1, ha⟩ := hrel
      by_cases hlt : k < s.size
      · have hd := HD.out.dig k hlt
        have hs := step_of HD.out k hlt
        have hl := le_of HD.out (k + 1)
        have ht := HD.out.lt
        obtain ⟨c, hc⟩ : ∃ c : Int, (s[k].toNat : Int) = c := ⟨_, rfl⟩
        have c0 : 48 ≤ c := by omega
        have c1 : c ≤ 57 := by omega
        have ha' := ha.out
        have s1 : a * 10 + (c - 48) ≤ 9223372036854775808 := by omega
        have s2 : a ≤ 1844674407370955161 := by omega
        have HS : Hid ((a * 10 + (c - 48) : Int) = (valOf (s.data.toList.take (k + 1)) : Nat)) := by show _ = _; omega
        clear hd hs hl ht ha'
        go_wp2
        go_round
        case rel => exact ⟨k + 1, a * 10 + (c - 48), by omega, by go_num, rfl, by omega, s1, HS⟩
        case measure => simp [intOf]; omega
      · have hv : a = u := by
          have := ha.out
          rw [List.take_of_length_le (by rw [Array.length_toList]; exact Nat.le_of_not_lt hlt), HD.out.val] at this
          exact this
        have e : (a == n) = true := by rw [beq_iff_eq]; have := HN.out; omega
        clear hv
        go_wp2
        go_ret
        exact ⟨rfl, rfl⟩

set_option maxHeartbeats 1000000 in
theorem canon_neg (u : Nat) (d s : ByteArray) (n : Int) (w : World) (D : Digs s u) (hs : d.extract 1 d.size = s) (hd : d.size = s.size + 1) (h45 : ∀ (h : 0 < d.size), d[0].toNat = 45) (hn : n = -(u : Int)) (u1 : 1 ≤ u) :
    Calls Tryd.prog 6 #[.string d, .int .i64 n] w fun e w' => e = .returned (.bool true) ∧ w' = w := by
  have h0 : 0 < s.size := D.pos
  have hm : s.size ≤ 1000 := D.le
  have HD : Hid (Digs s u) := D
  have HN : Hid (n = -(u : Int)) := hn
  have n0 : n < 0 := by omega
  have nl : -9223372036854775808 ≤ n := by have := D.lt; omega
  have d0 : 0 < d.size := by omega
  have d1 : 1 ≤ d.size := by omega
  have dm : d.size ≤ 1001 := by omega
  have e0 := size_ne d0
  have e00 := size_ne h0
  have e1 : ((d[0].toNat : Int) == 45) = true := by rw [beq_iff_eq]; have := h45 d0; omega
  have e2 : 1 < s.size → ((s[0].toNat : Int) == 48) = false := fun h => byte_ne (by have := D.head h h0; omega)
  clear hn D hd h45
  by_cases h1 : 1 < s.size
  · have e3 := e2 h1
    clear e2
    go_enter Tryd.func6, Tryd.ntmps6
    go_wp2
    go_loop [7, 8] (fun v i => ∃ (k : Nat) (a : Int), k ≤ s.size ∧ i = .int .i64 k ∧ v = .int .u64 a ∧ 0 ≤ a ∧ a ≤ 9223372036854775808 ∧ Hid (a = valOf (s.data.toList.take k))) (fun _ i => s.size - (intOf i).toNat)
    case atStart => exact ⟨0, 0, Nat.zero_le _, rfl, rfl, by omega, by omega, rfl⟩
    case round =>
      obtain ⟨k, a, hk, rfl, rfl, a0, a1, ha⟩ := hrel
      by_cases hlt : k < s.size
      · have hd := HD.out.dig k hlt
        have hs := step_of HD.out k hlt
        have hl := le_of HD.out (k + 1)
        have ht := HD.out.lt
        obtain ⟨c, hc⟩ : ∃ c : Int, (s[k].toNat : Int) = c := ⟨_, rfl⟩
        have c0 : 48 ≤ c := by omega
        have c1 : c ≤ 57 := by omega
        have ha' := ha.out
        have s1 : a * 10 + (c - 48) ≤ 9223372036854775808 := by omega
        have s2 : a ≤ 1844674407370955161 := by omega
        have HS : Hid ((a * 10 + (c - 48) : Int) = (valOf (s.data.toList.take (k + 1)) : Nat)) := by show _ = _; omega
        clear hd hs hl ht ha'
        go_wp2
        go_round
        case rel => exact ⟨k + 1, a * 10 + (c - 48), by omega, by go_num, rfl, by omega, s1, HS⟩
        case measure => simp [intOf]; omega
      · have hv : a = u := by
          have := ha.out
          rw [List.take_of_length_le (by rw [Array.length_toList]; exact Nat.le_of_not_lt hlt), HD.out.val] at this
          exact this
        have HV : Hid (a = u) := hv
        clear hv
        go_wp2
        go_ret
        exact ⟨ret_bool (neg_mag a n u HV.out HN.out u1 HD.out.lt), rfl⟩
  · clear e2
    go_enter Tryd.func6, Tryd.ntmps6
    go_wp2
    go_loop [7, 8] (fun v i => ∃ (k : Nat) (a : Int), k ≤ s.size ∧ i = .int .i64 k ∧ v = .int .u64 a ∧ 0 ≤ a ∧ a ≤ 9223372036854775808 ∧ Hid (a = valOf (s.data.toList.take k))) (fun _ i => s.size - (intOf i).toNat)
    case atStart => exact ⟨0, 0, Nat.zero_le _, rfl, rfl, by omega, by omega, rfl⟩
    case round =>
      obtain ⟨k, a, hk, rfl, rfl, a0, a1, ha⟩ := hrel
      by_cases hlt : k < s.size
      · have hd := HD.out.dig k hlt
        have hs := step_of HD.out k hlt
        have hl := le_of HD.out (k + 1)
        have ht := HD.out.lt
        obtain ⟨c, hc⟩ : ∃ c : Int, (s[k].toNat : Int) = c := ⟨_, rfl⟩
        have c0 : 48 ≤ c := by omega
        have c1 : c ≤ 57 := by omega
        have ha' := ha.out
        have s1 : a * 10 + (c - 48) ≤ 9223372036854775808 := by omega
        have s2 : a ≤ 1844674407370955161 := by omega
        have HS : Hid ((a * 10 + (c - 48) : Int) = (valOf (s.data.toList.take (k + 1)) : Nat)) := by show _ = _; omega
        clear hd hs hl ht ha'
        go_wp2
        go_round
        case rel => exact ⟨k + 1, a * 10 + (c - 48), by omega, by go_num, rfl, by omega, s1, HS⟩
        case measure => simp [intOf]; omega
      · have hv : a = u := by
          have := ha.out
          rw [List.take_of_length_le (by rw [Array.length_toList]; exact Nat.le_of_not_lt hlt), HD.out.val] at this
          exact this
        have HV : Hid (a = u) := hv
        clear hv
        go_wp2
        go_ret
        exact ⟨ret_bool (neg_mag a n u HV.out HN.out u1 HD.out.lt), rfl⟩
end Go.Proofs.Qxb6602887aDoor.Num
