import Derived.Test.Qxb6605266aState
import Derived.Test.Qxb6605266aTakeC
namespace Go.Proofs.Qxb6605266a.Seq
open Go Go.RowKit
set_option linter.unusedVariables false
set_option maxRecDepth 100000

theorem ts_key (u v : Bool) (f : Nat → Int) : tsArr u f = tsArr v f := by cases u <;> cases v <;> rfl
theorem tk_key (u v : Bool) (f : Nat → Bool) : tkArr u f = tkArr v f := by cases u <;> cases v <;> rfl

theorem build27t (h r : Int) (b : Bool) (ba cy rc ep rp : Int) (f : Nat → Int) (k : Nat → Bool) (w : World) :
    (Instr.build 27 #[(0, .int .u16 h), (1, .int .u32 r), (2, .bool b), (3, .int .u16 ba), (4, .int .u32 cy), (5, .int .i64 rc), (6, .int .i64 ep), (7, .int .i64 rp), (8, .agg (tsArr true f)), (9, .agg (tkArr true k))]).run Try.prog w
      = .ok (.agg (stArr true ⟨h, r, b, ba, cy, rc, ep, rp, f, k⟩)) w := by kernel_rfl
theorem build27 (u : Bool) (h r : Int) (b : Bool) (ba cy rc ep rp : Int) (f : Nat → Int) (k : Nat → Bool) (w : World) :
    (Instr.build 27 #[(0, .int .u16 h), (1, .int .u32 r), (2, .bool b), (3, .int .u16 ba), (4, .int .u32 cy), (5, .int .i64 rc), (6, .int .i64 ep), (7, .int .i64 rp), (8, .agg (tsArr u f)), (9, .agg (tkArr u k))]).run Try.prog w
      = .ok (.agg (stArr u ⟨h, r, b, ba, cy, rc, ep, rp, f, k⟩)) w := by
  rw [ts_key u true, tk_key u true, st_key u true]
  exact build27t h r b ba cy rc ep rp f k w

/-- a build whose run is known -/
theorem wpList_build_run {P : Program} {ops : Array Oper} {rest : List Oper} {o : Oper} {a : Act} {w : World} {Q : Exit → Act → World → Prop} (hgd : o.guard = none) (t : TypeId) (parts : Array (Nat × Operand)) (ho : o.op = .build t parts)
    (vs : Array (Nat × Value)) (hv : parts.map (fun (i, x) => (i, a.eval x)) = vs) (cells : Array Value) (hr : (Instr.build t vs).run P w = .ok (.agg cells) w)
    (h : wpList P ops Q rest (a.put o.dst (.agg cells)) w) : wpList P ops Q (o :: rest) a w :=
  wpList_plain hgd fun _ hK => by
    unfold Oper.wp execOp
    simp only [ho, hv, Sem.run_bind, hr, Result.andThen_ok]
    exact hK _ _ h

/-- a whole load under a guard that says yes -/
theorem wpList_load_want {P : Program} {ops : Array Oper} {rest : List Oper} {o : Oper} {a : Act} {w : World} {Q : Exit → Act → World → Prop} (hw : Region.wanted o (yielded ops a.tmps) = true) (ty : TypeId) (x : Operand) (ho : o.op = .load ty x)
    (g : Nat) (hx : a.eval x = .pointer (some ⟨g, 0, none⟩)) (t : TypeId) (cs : Array Value) (fr : Nat × Nat) (d : TypeDesc) (hg : w.heap[g]? = some (.cells cs t fr))
    (hu : P.underlying ty = some d) (hd : (match d with | .struct _ | .array _ _ => true | _ => false) = true) (hi : (P.info? ty).map (·.size) = some cs.size)
    (h : wpList P ops Q rest (a.put o.dst (.agg cs)) w) : wpList P ops Q (o :: rest) a w :=
  BigFrame.wpList_want hw fun _ hK => wp_load_row ty x ho g hx t cs fr d hg hu hd hi (hK _ _ h)

theorem info24 : (Try.prog.info? 24).map (·.size) = some 128 := by kernel_rfl
theorem info25 : (Try.prog.info? 25).map (·.size) = some 128 := by kernel_rfl
theorem i27 (u : Bool) (s : St) : (Try.prog.info? 27).map (·.size) = some (stArr u s).size := by rw [stArr_size]; exact info27
theorem i24 (u : Bool) (f : Nat → Int) : (Try.prog.info? 24).map (·.size) = some (tsArr u f).size := by rw [tsArr_size]; exact info24
theorem i25 (u : Bool) (f : Nat → Bool) : (Try.prog.info? 25).map (·.size) = some (tkArr u f).size := by rw [tkArr_size]; exact info25

/-! ### '==' on two states that are one -/
theorem eqItems_refl {P : Program} {d c : Nat} {e : TypeId} {xs : Array Value} {w : World} : ∀ (is : List Nat), (∀ i, i ∈ is → ∃ v, (Go.part e xs (i * c)).run P w = .ok v w ∧ (Op.equalIn d e v v).run P w = .ok true w) → (Op.eqItems d e c xs xs is).run P w = .ok true w
  | [], _ => by simp [Op.eqItems]
  | i :: is, h => by
    obtain ⟨v, h1, h2⟩ := h i (by simp)
    have ih := eqItems_refl is (fun j hj => h j (by simp [hj]))
    simp only [Op.eqItems, Sem.run_bind, h1, h2, Result.andThen_ok, Bool.not_true, Bool.false_eq_true, if_false]
    exact ih
theorem part_int {P : Program} {t : TypeId} {k : IntKind} (hu : P.underlying t = some (.int k)) (cs : Array Value) (o : Nat) (v : Value) (hv : cs[o]? = some v) (w : World) : (Go.part t cs o).run P w = .ok v w := by
  simp [Go.part, isAgg, run_underlying hu, hv]
theorem part_bool {P : Program} {t : TypeId} (hu : P.underlying t = some .bool) (cs : Array Value) (o : Nat) (v : Value) (hv : cs[o]? = some v) (w : World) : (Go.part t cs o).run P w = .ok v w := by
  simp [Go.part, isAgg, run_underlying hu, hv]
theorem eqInt {P : Program} {t : TypeId} {k : IntKind} (hu : P.underlying t = some (.int k)) (d : Nat) (x : Int) (w : World) : (Op.equalIn (d + 1) t (.int k x) (.int k x)).run P w = .ok true w := by
  rw [run_equalIn_int w d t k k x x hu]; simp
theorem eqBool {P : Program} {t : TypeId} (hu : P.underlying t = some .bool) (d : Nat) (x : Bool) (w : World) : (Op.equalIn (d + 1) t (.bool x) (.bool x)).run P w = .ok true w := by
  rw [run_equalIn_bool w d t x x hu]; simp
theorem cells23 : Try.prog.cellsOf 23 = 1 := by kernel_rfl
theorem cells4 : Try.prog.cellsOf 4 = 1 := by kernel_rfl
theorem extract_get (cs : Array Value) (a n i : Nat) (h : i < n) (hn : a + n ≤ cs.size) : (cs.extract a (a + n))[i]? = cs[a + i]? := by
  rw [Array.getElem?_extract, if_pos (by omega)]
theorem eqTs (u : Bool) (s : St) (d : Nat) (w : World) : (Op.equalIn (d + 2) 24 (.agg ((stArr u s).extract 8 (8 + 128))) (.agg ((stArr u s).extract 8 (8 + 128)))).run Try.prog w = .ok true w := by
  obtain ⟨i, hq, hs⟩ := Option.map_eq_some_iff.1 (show (Try.prog.info? 23).map (·.size) = some 1 by kernel_rfl)
  rw [show d + 2 = (d + 1) + 1 from rfl, run_equalIn_array w (d + 1) _ _ Try.underlying24 hq, cells23]
  refine eqItems_refl _ fun j hj => ?_
  have hj' : j < 128 := by simpa using hj
  refine ⟨.int .u32 (s.ts j), part_int Try.underlying23 _ _ _ ?_ w, eqInt Try.underlying23 d _ w⟩
  rw [Nat.mul_one, extract_get _ 8 128 j hj' (by rw [stArr_size]; omega)]
  exact st_getTs u s j hj'
theorem eqTk (u : Bool) (s : St) (d : Nat) (w : World) : (Op.equalIn (d + 2) 25 (.agg ((stArr u s).extract 136 (136 + 128))) (.agg ((stArr u s).extract 136 (136 + 128)))).run Try.prog w = .ok true w := by
  obtain ⟨i, hq, hs⟩ := Option.map_eq_some_iff.1 (show (Try.prog.info? 4).map (·.size) = some 1 by kernel_rfl)
  rw [show d + 2 = (d + 1) + 1 from rfl, run_equalIn_array w (d + 1) _ _ Try.underlying25 hq, cells4]
  refine eqItems_refl _ fun j hj => ?_
  have hj' : j < 128 := by simpa using hj
  refine ⟨.bool (s.tk j), part_bool Try.underlying4 _ _ _ ?_ w, eqBool Try.underlying4 d _ w⟩
  rw [Nat.mul_one, extract_get _ 136 128 j hj' (by rw [stArr_size]; omega)]
  exact st_getTk u s j hj'
theorem part_arr {P : Program} {t e : TypeId} {n : Nat} (hu : P.underlying t = some (.array n e)) (hi : (P.info? t).map (·.size) = some n) (cs : Array Value) (o : Nat) (w : World) : (Go.part t cs o).run P w = .ok (.agg (cs.extract o (o + n))) w := by
  obtain ⟨i, hq, hs⟩ := Option.map_eq_some_iff.1 hi
  simp [Go.part, isAgg, run_underlying hu, sizeOf, typeInfo, hq, hs]
theorem fields27 : (Try.prog.fieldsOf 27).toList = [{ name := "Highest", type := 22, offset := 0, embedded := false, tag := "", pkgPath := "", byteOffset := 0 }, { name := "Restart", type := 23, offset := 1, embedded := false, tag := "", pkgPath := "", byteOffset := 4 }, { name := "Started", type := 4, offset := 2, embedded := false, tag := "", pkgPath := "", byteOffset := 8 }, { name := "Base", type := 22, offset := 3, embedded := false, tag := "", pkgPath := "", byteOffset := 10 }, { name := "Cycles", type := 23, offset := 4, embedded := false, tag := "", pkgPath := "", byteOffset := 12 }, { name := "Received", type := 3, offset := 5, embedded := false, tag := "", pkgPath := "", byteOffset := 16 }, { name := "ExpectedPrior", type := 3, offset := 6, embedded := false, tag := "", pkgPath := "", byteOffset := 24 }, { name := "ReceivedPrior", type := 3, offset := 7, embedded := false, tag := "", pkgPath := "", byteOffset := 32 }, { name := "RecentTS", type := 24, offset := 8, embedded := false, tag := "", pkgPath := "", byteOffset := 40 }, { name := "RecentTaken", type := 25, offset := 136, embedded := false, tag := "", pkgPath := "", byteOffset := 552 }] := by
  unfold Program.fieldsOf; rw [Try.underlying27]
theorem step_field {d : Nat} {xs : Array Value} {f : Field} {fs : List Field} {P : Program} {w : World} (hn : f.name ≠ "_") {v : Value} (h1 : (Go.part f.type xs f.offset).run P w = .ok v w) (h2 : (Op.equalIn d f.type v v).run P w = .ok true w)
    (h : (Op.eqFields d xs xs fs).run P w = .ok true w) : (Op.eqFields d xs xs (f :: fs)).run P w = .ok true w := by
  simp only [Op.eqFields, if_pos hn, Sem.run_bind, h1, h2, Result.andThen_ok, Bool.not_true, Bool.false_eq_true, if_false]
  exact h
theorem eq27 (u : Bool) (s : St) (w : World) : (binOp .eql 27 (.agg (stArr u s)) (.agg (stArr u s))).run Try.prog w = .ok (.bool true) w := by
  rw [run_eql_struct, run_equalIn_struct w 9999 27 _ _ (by unfold Program.fieldsOf; rw [Try.underlying27]) (by kernel_rfl), fields27]
  have h : (Op.eqFields 9999 (stArr u s) (stArr u s) (Try.prog.fieldsOf 27).toList).run Try.prog w = .ok true w := by
    rw [fields27]
    refine step_field (by decide) (part_int Try.underlying22 _ _ _ (st_get0 u s) w) (eqInt Try.underlying22 9998 _ w) ?_
    refine step_field (by decide) (part_int Try.underlying23 _ _ _ (st_get1 u s) w) (eqInt Try.underlying23 9998 _ w) ?_
    refine step_field (by decide) (part_bool Try.underlying4 _ _ _ (st_get2 u s) w) (eqBool Try.underlying4 9998 _ w) ?_
    refine step_field (by decide) (part_int Try.underlying22 _ _ _ (st_get3 u s) w) (eqInt Try.underlying22 9998 _ w) ?_
    refine step_field (by decide) (part_int Try.underlying23 _ _ _ (st_get4 u s) w) (eqInt Try.underlying23 9998 _ w) ?_
    refine step_field (by decide) (part_int Try.underlying3 _ _ _ (st_get5 u s) w) (eqInt Try.underlying3 9998 _ w) ?_
    refine step_field (by decide) (part_int Try.underlying3 _ _ _ (st_get6 u s) w) (eqInt Try.underlying3 9998 _ w) ?_
    refine step_field (by decide) (part_int Try.underlying3 _ _ _ (st_get7 u s) w) (eqInt Try.underlying3 9998 _ w) ?_
    refine step_field (by decide) (part_arr Try.underlying24 info24 _ _ w) (eqTs u s 9997 w) ?_
    refine step_field (by decide) (part_arr Try.underlying25 info25 _ _ w) (eqTk u s 9997 w) ?_
    simp [Op.eqFields]
  rw [← fields27, h]
  rfl
theorem guard27 (op : BinOp) (x y : Operand) (xs ys : Array Value) (w : World) : (eqGuard op 27 x y (.agg xs) (.agg ys)).run Try.prog w = .ok () w := run_eqGuard_agg w op 27 x y xs ys (by kernel_rfl)
/-- '==' of two states that are one, under a guard that says yes -/
theorem wpList_eql27 {ops : Array Oper} {rest : List Oper} {o : Oper} {a : Act} {w : World} {Q : Exit → Act → World → Prop} (hw : Region.wanted o (yielded ops a.tmps) = true) (x y : Operand) (t : TypeId) (ho : o.op = .binOp .eql 27 x y t)
    (u : Bool) (s : St) (hx : a.eval x = .agg (stArr u s)) (hy : a.eval y = .agg (stArr u s)) (h : wpList Try.prog ops Q rest (a.put o.dst (.bool true)) w) : wpList Try.prog ops Q (o :: rest) a w :=
  BigFrame.wpList_want hw fun _ hK => by
    unfold Oper.wp execOp
    simp only [ho, hx, hy, Sem.run_bind, guard27, eq27, Result.andThen_ok]
    exact hK _ _ h
end Go.Proofs.Qxb6605266a.Seq
