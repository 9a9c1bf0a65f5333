import Derived.Test.Qxb6605266aCopyA
import Derived.Test.Qxb6605266aCopyB
import Derived.Test.Qxb6605266aCopyC
namespace Go.Proofs.Qxb6605266a.Seq
open Go Go.RowKit
set_option linter.unusedVariables false

theorem copy_law (u : Bool) (seq ts hi re : Int) (b : Bool) (ba cy rc ep rp : Int) (f : Nat → Int) (h : Nat → Bool) (w : World) (q0 : 0 ≤ seq) (q1 : seq ≤ 65535) (p0 : 0 ≤ hi) (p1 : hi ≤ 65535) (w0 : 0 ≤ ts) (w1 : ts ≤ 4294967295) :
    Calls Try.prog 4 #[.int .u16 seq, .int .u32 ts, .int .u16 hi, .int .u32 re, .bool b, .int .u16 ba, .int .u32 cy, .int .i64 rc, .int .i64 ep, .int .i64 rp, .agg (tsArr u f), .agg (tkArr u h)] w fun e w' => e = .returned (.bool true) ∧ Grown w w' := by
  obtain ⟨D, hD⟩ : ∃ D, (seq - hi) % 65536 = D := ⟨_, rfl⟩
  have d0 : 0 ≤ D := by omega
  have d1 : D < 65536 := by omega
  cases b
  · have A := acc_of u (fresh ⟨hi, re, false, ba, cy, rc, ep, rp, f, h⟩ seq ts (seq % 128).toNat) seq ts rfl q0 q1 (Or.inl (by show (seq - seq) % 65536 = 0; omega)) (if_pos rfl) (if_pos rfl) rfl w0 w1
    rw [show (seq == (fresh ⟨hi, re, false, ba, cy, rc, ep, rp, f, h⟩ seq ts (seq % 128).toNat).highest) = true from beq_self_eq_true seq] at A
    exact copy_fresh u seq ts hi re ba cy rc ep rp f h w q0 q1 p0 p1 D hD d0 d1 _ _ (if_pos rfl) A rfl
  · have HR := takeR_on ⟨hi, re, true, ba, cy, rc, ep, rp, f, h⟩ seq ts D rfl hD
    by_cases ho : 1 ≤ D ∧ D < 3000
    · rw [if_pos ho] at HR
      have hst : (if seq < hi then turn ⟨hi, re, true, ba, cy, rc, ep, rp, f, h⟩ else ⟨hi, re, true, ba, cy, rc, ep, rp, f, h⟩).started = true := by split <;> rfl
      have A := acc_of u (fin (clr (if seq < hi then turn ⟨hi, re, true, ba, cy, rc, ep, rp, f, h⟩ else ⟨hi, re, true, ba, cy, rc, ep, rp, f, h⟩) seq D 0) seq ts (seq % 128).toNat) seq ts hst q0 q1 (Or.inl (by show (seq - seq) % 65536 = 0; omega)) (if_pos rfl) (if_pos rfl) rfl w0 w1
      rw [show (seq == (fin (clr (if seq < hi then turn ⟨hi, re, true, ba, cy, rc, ep, rp, f, h⟩ else ⟨hi, re, true, ba, cy, rc, ep, rp, f, h⟩) seq D 0) seq ts (seq % 128).toNat).highest) = true from beq_self_eq_true seq] at A
      exact copy_order u seq ts hi re ba cy rc ep rp f h w q0 q1 p0 p1 D hD d0 d1 _ _ HR A rfl ho.1 ho.2 (by simp; omega) (by omega)
    · rw [if_neg ho] at HR
      by_cases hb : D = 0 ∨ 65436 < D
      · rw [if_pos hb] at HR
        by_cases hc : h (seq % 128).toNat = true ∧ f (seq % 128).toNat ≠ ts
        · have hcl : (h (seq % 128).toNat && (f (seq % 128).toNat != ts)) = true := by simp [hc.1, hc.2]
          have HR' : takeR ⟨hi, re, true, ba, cy, rc, ep, rp, f, h⟩ seq ts = (false, false, noRe ⟨hi, re, true, ba, cy, rc, ep, rp, f, h⟩) := HR.trans (if_pos hc)
          by_cases hd : D = 0
          · exact copy_clash0 u seq ts hi re ba cy rc ep rp f h w q0 q1 p0 p1 D hD d0 d1 _ HR' rfl hcl (by omega) (by simpa using hd)
          · exact copy_clash1 u seq ts hi re ba cy rc ep rp f h w q0 q1 p0 p1 D hD d0 d1 _ HR' rfl hcl (by omega) (by omega) (by simpa using hd) (by omega)
        · have hcl : (h (seq % 128).toNat && (f (seq % 128).toNat != ts)) = false := by
            cases hk : h (seq % 128).toNat
            · rfl
            · have ht : f (seq % 128).toNat = ts := Classical.byContradiction fun n => hc ⟨hk, n⟩
              simp [ht]
          have HR' : takeR ⟨hi, re, true, ba, cy, rc, ep, rp, f, h⟩ seq ts = (seq == hi, true, again ⟨hi, re, true, ba, cy, rc, ep, rp, f, h⟩ ts (seq % 128).toNat) := HR.trans (if_neg hc)
          have A := acc_of u (again ⟨hi, re, true, ba, cy, rc, ep, rp, f, h⟩ ts (seq % 128).toNat) seq ts rfl p0 p1 (by rw [← hD] at hb; exact hb) (if_pos rfl) (if_pos rfl) rfl w0 w1
          rw [show (seq == (again ⟨hi, re, true, ba, cy, rc, ep, rp, f, h⟩ ts (seq % 128).toNat).highest) = (seq == hi) from rfl] at A
          by_cases hd : D = 0
          · have hq : (seq == hi) = true := by simp; omega
            rw [hq] at A HR'
            exact copy_same u seq ts hi re ba cy rc ep rp f h w q0 q1 p0 p1 D hD d0 d1 _ _ HR' A hcl (by show (hi != seq) = false; simp; omega) (by omega) (by simpa using hd)
          · have hq : (seq == hi) = false := by simp; omega
            rw [hq] at A HR'
            exact copy_back u seq ts hi re ba cy rc ep rp f h w q0 q1 p0 p1 D hD d0 d1 _ _ HR' A hcl (by show (hi != seq) = true; simp; omega) (by omega) (by omega) (by simpa using hd) (by omega)
      · rw [if_neg hb] at HR
        exact copy_out u seq ts hi re ba cy rc ep rp f h w q0 q1 p0 p1 D hD d0 d1 _ HR rfl (by omega) (by omega) (by simp; omega) (by omega)
end Go.Proofs.Qxb6605266a.Seq
