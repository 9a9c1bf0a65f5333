import Derived.Test.Qxb6605266aTableB
import Derived.Deep.DeepCutAuto
namespace Go.Proofs.Qxb6605266a.Seq
open Go Go.RowKit
set_option linter.unusedVariables false
set_option maxRecDepth 100000

theorem eqIn27 (u : Bool) (s : St) (w : World) : (Op.equalIn 10000 27 (.agg (stArr u s)) (.agg (stArr u s))).run Try.prog w = .ok true w := by
  rw [run_equalIn_struct w 9999 27 _ _ (by unfold Program.fieldsOf; rw [Try.underlying27]) (by kernel_rfl), fields27]
  refine step_field (by decide) (part_int Try.underlying22 _ _ _ (st_get0 u s) w) (eqInt Try.underlying22 9998 _ w) ?_
  refine step_field (by decide) (part_int Try.underlying23 _ _ _ (st_get1 u s) w) (eqInt Try.underlying23 9998 _ w) ?_
  refine step_field (by decide) (part_bool Try.underlying4 _ _ _ (st_get2 u s) w) (eqBool Try.underlying4 9998 _ w) ?_
  refine step_field (by decide) (part_int Try.underlying22 _ _ _ (st_get3 u s) w) (eqInt Try.underlying22 9998 _ w) ?_
  refine step_field (by decide) (part_int Try.underlying23 _ _ _ (st_get4 u s) w) (eqInt Try.underlying23 9998 _ w) ?_
  refine step_field (by decide) (part_int Try.underlying3 _ _ _ (st_get5 u s) w) (eqInt Try.underlying3 9998 _ w) ?_
  refine step_field (by decide) (part_int Try.underlying3 _ _ _ (st_get6 u s) w) (eqInt Try.underlying3 9998 _ w) ?_
  refine step_field (by decide) (part_int Try.underlying3 _ _ _ (st_get7 u s) w) (eqInt Try.underlying3 9998 _ w) ?_
  refine step_field (by decide) (part_arr Try.underlying24 info24 _ _ w) (eqTs u s 9997 w) ?_
  refine step_field (by decide) (part_arr Try.underlying25 info25 _ _ w) (eqTk u s 9997 w) ?_
  simp [Op.eqFields]
theorem neq27 (u : Bool) (s : St) (w : World) : (binOp .neq 27 (.agg (stArr u s)) (.agg (stArr u s))).run Try.prog w = .ok (.bool false) w := by
  rw [run_neq_struct, eqIn27]; rfl
/-- '!=' of two states that are one, under a guard that says yes -/
theorem wpList_neq27 {ops : Array Oper} {rest : List Oper} {o : Oper} {a : Act} {w : World} {Q : Exit → Act → World → Prop} (hw : Region.wanted o (yielded ops a.tmps) = true) (x y : Operand) (t : TypeId) (ho : o.op = .binOp .neq 27 x y t)
    (u : Bool) (s : St) (hx : a.eval x = .agg (stArr u s)) (hy : a.eval y = .agg (stArr u s)) (h : wpList Try.prog ops Q rest (a.put o.dst (.bool false)) w) : wpList Try.prog ops Q (o :: rest) a w :=
  BigFrame.wpList_want hw fun _ hK => by
    unfold Oper.wp execOp
    simp only [ho, hx, hy, Sem.run_bind, guard27, neq27, Result.andThen_ok]
    exact hK _ _ h

/-- a packet just taken: a copy of it is taken again, another is refused -/
structure Acc (u : Bool) (s1 s2 : St) (seq ts : Int) (hb : Bool) : Prop where
  lo : 0 ≤ s1.highest
  hi : s1.highest ≤ 65535
  lo2 : 0 ≤ s2.highest
  hi2 : s2.highest ≤ 65535
  t1 : takeR s1 seq ts = (hb, true, s2)
  t2 : takeR s2 seq ((ts + 1) % 4294967296) = (false, false, s2)
  e2 : stArr u s2 = stArr u { s1 with recv := wrap64 (s1.recv + 1) }
  tk : s1.tk (seq % 128).toNat = true
  tt : s1.ts (seq % 128).toNat = ts
  re : s1.restart = 65536
theorem acc_of (u : Bool) (s1 : St) (seq ts : Int) (hs : s1.started = true) (h0 : 0 ≤ s1.highest) (h1 : s1.highest ≤ 65535) (hd : (seq - s1.highest) % 65536 = 0 ∨ 65436 < (seq - s1.highest) % 65536)
    (tk : s1.tk (seq % 128).toNat = true) (tt : s1.ts (seq % 128).toNat = ts) (re : s1.restart = 65536) (w0 : 0 ≤ ts) (w1 : ts ≤ 4294967295) : Acc u s1 (again s1 ts (seq % 128).toNat) seq ts (seq == s1.highest) where
  lo := h0
  hi := h1
  lo2 := h0
  hi2 := h1
  t1 := by
    rw [takeR_on s1 seq ts _ hs rfl, if_neg (by omega), if_pos hd, if_neg (fun c => c.2 tt)]
  t2 := by
    rw [takeR_on (again s1 ts (seq % 128).toNat) seq _ _ hs rfl]
    have hd' : (seq - (again s1 ts (seq % 128).toNat).highest) % 65536 = 0 ∨ 65436 < (seq - (again s1 ts (seq % 128).toNat).highest) % 65536 := hd
    rw [if_neg (by omega), if_pos hd', if_pos]
    · rfl
    · refine ⟨if_pos rfl, ?_⟩
      show (if (seq % 128).toNat = (seq % 128).toNat then ts else _) ≠ _
      rw [if_pos rfl]
      omega
  e2 := by
    refine stArr_congr u (fun i h => ?_) (fun j h => ?_) (fun j h => ?_)
    · rcases scal h with rfl | rfl | rfl | rfl | rfl | rfl | rfl | rfl <;> first | rfl | (show Value.int .u32 65536 = Value.int .u32 s1.restart; rw [re])
    · show (if j = (seq % 128).toNat then ts else s1.ts j) = s1.ts j
      by_cases e : j = (seq % 128).toNat
      · rw [if_pos e, e, tt]
      · rw [if_neg e]
    · show (if j = (seq % 128).toNat then true else s1.tk j) = s1.tk j
      by_cases e : j = (seq % 128).toNat
      · rw [if_pos e, e, tk]
      · rw [if_neg e]
  tk := tk
  tt := tt
  re := re
end Go.Proofs.Qxb6605266a.Seq
