import Derived.Lib.ItoaNum
namespace Go.Proofs.Qxb6602887aDoor.Num
open Go Go.Lib

/-- the number that a list of digits says -/
def valOf (l : List UInt8) : Nat := l.foldl (fun a c => a * 10 + (c.toNat - 48)) 0
theorem val_snoc (l : List UInt8) (c : UInt8) : valOf (l ++ [c]) = valOf l * 10 + (c.toNat - 48) := by
  unfold valOf; rw [List.foldl_append]; rfl
theorem ofNat_digit (x : Nat) (h : x < 10) : (UInt8.ofNat (48 + x)).toNat = 48 + x := by
  rw [UInt8.toNat_ofNat']; omega
theorem dec_small {u : Nat} (h : u < 10) : decDigits u = [UInt8.ofNat (48 + u)] := by rw [decDigits, dif_pos h]
theorem dec_big {u : Nat} (h : ¬ u < 10) : decDigits u = decDigits (u / 10) ++ [UInt8.ofNat (48 + u % 10)] := by rw [decDigits, dif_neg h]
theorem val_dec (u : Nat) : valOf (decDigits u) = u := by
  induction u using Nat.strongRecOn with
  | ind u ih =>
    by_cases h : u < 10
    · rw [dec_small h]
      show valOf ([] ++ [UInt8.ofNat (48 + u)]) = u
      rw [val_snoc, ofNat_digit u h]
      show 0 * 10 + (48 + u - 48) = u
      omega
    · rw [dec_big h, val_snoc, ih (u / 10) (by omega), ofNat_digit _ (by omega)]
      omega
theorem dec_digit (u : Nat) : ∀ c, c ∈ decDigits u → 48 ≤ c.toNat ∧ c.toNat ≤ 57 := by
  induction u using Nat.strongRecOn with
  | ind u ih =>
    intro c hc
    by_cases h : u < 10
    · rw [dec_small h] at hc
      obtain rfl := List.mem_singleton.1 hc
      rw [ofNat_digit u h]; omega
    · rw [dec_big h] at hc
      rcases List.mem_append.1 hc with hc | hc
      · exact ih (u / 10) (by omega) c hc
      · obtain rfl := List.mem_singleton.1 hc
        rw [ofNat_digit _ (by omega)]; omega
theorem dec_pos (u : Nat) : 0 < (decDigits u).length := by
  by_cases h : u < 10
  · rw [dec_small h]; exact Nat.one_pos
  · rw [dec_big h, List.length_append]; simp
/-- no leading zero -/
theorem dec_head (u : Nat) (hu : 1 ≤ u) : ∀ (h0 : 0 < (decDigits u).length), 49 ≤ ((decDigits u)[0]).toNat := by
  induction u using Nat.strongRecOn with
  | ind u ih =>
    intro h0
    by_cases h : u < 10
    · have e : (decDigits u)[0] = UInt8.ofNat (48 + u) := by simp [dec_small h]
      rw [e, ofNat_digit u h]; omega
    · have hp := dec_pos (u / 10)
      have e : (decDigits u)[0] = (decDigits (u / 10))[0] := by
        simp only [dec_big h]
        rw [List.getElem_append_left hp]
      rw [e]
      exact ih (u / 10) (by omega) (by omega) hp
theorem dec_one (u : Nat) (h : 1 < (decDigits u).length) : 1 ≤ u := by
  by_cases e : u = 0
  · subst e; rw [dec_small (by omega)] at h; simp at h
  · omega
theorem val_mono (l r : List UInt8) : valOf l ≤ valOf (l ++ r) := by
  induction r generalizing l with
  | nil => rw [List.append_nil]; exact Nat.le_refl _
  | cons c r ih =>
    have h1 := ih (l ++ [c])
    rw [List.append_assoc, List.singleton_append, val_snoc] at h1
    omega
theorem val_take (l : List UInt8) (k : Nat) : valOf (l.take k) ≤ valOf l := by
  have := val_mono (l.take k) (l.drop k)
  rwa [List.take_append_drop] at this
theorem val_step (l : List UInt8) (k : Nat) (h : k < l.length) : valOf (l.take (k + 1)) = valOf (l.take k) * 10 + (l[k].toNat - 48) := by
  rw [List.take_succ_eq_append_getElem h, val_snoc]
end Go.Proofs.Qxb6602887aDoor.Num
