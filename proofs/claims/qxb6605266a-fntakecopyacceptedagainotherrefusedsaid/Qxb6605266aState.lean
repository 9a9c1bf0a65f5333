import Derived.Test.Qxb6605266aNew
import Derived.Deep.WholeRow
namespace Go.Proofs.Qxb6605266a.Seq
open Go Go.RowKit
set_option linter.unusedVariables false
set_option maxRecDepth 100000

def nil0 : St := ⟨0, 0, false, 0, 0, 0, 0, 0, fun _ => 0, fun _ => false⟩
theorem zero27t (w : World) : (zeroValue 27).run Try.prog w = .ok (.agg (stArr true nil0)) w := by kernel_rfl
theorem zero27 (u : Bool) (w : World) : (zeroValue 27).run Try.prog w = .ok (.agg (stArr u nil0)) w := by rw [st_key u true]; exact zero27t w

theorem stArr_set {u : Bool} {s s' : St} {o : Nat} {v : Value} (h : ∀ i, i < 264 → stCell s' i = if o = i then v else stCell s i) : (stArr u s).setIfInBounds o v = stArr u s' := by
  apply Array.ext_getElem?
  intro i
  rw [Array.getElem?_setIfInBounds]
  by_cases hi : i < 264
  · rw [stArr_get u s i hi, stArr_get u s' i hi, h i hi]
    by_cases e : o = i
    · subst e; simp [stArr_size, hi]
    · simp [e]
  · have n1 : (stArr u s)[i]? = none := Array.getElem?_eq_none (by rw [stArr_size]; omega)
    have n2 : (stArr u s')[i]? = none := Array.getElem?_eq_none (by rw [stArr_size]; omega)
    rw [n1, n2, stArr_size]
    by_cases e : o = i
    · rw [if_pos e, if_neg (by omega)]
    · rw [if_neg e]
theorem st_set0 (u : Bool) (s : St) (x : Int) : (stArr u s).setIfInBounds 0 (.int .u16 x) = stArr u { s with highest := x } := stArr_set fun i _ => by
  by_cases h : i < 8
  · rcases scal h with rfl | rfl | rfl | rfl | rfl | rfl | rfl | rfl <;> rfl
  · unfold stCell; rw [if_neg h, if_neg h, if_neg (show ¬ 0 = i by omega)]
theorem st_set1 (u : Bool) (s : St) (x : Int) : (stArr u s).setIfInBounds 1 (.int .u32 x) = stArr u { s with restart := x } := stArr_set fun i _ => by
  by_cases h : i < 8
  · rcases scal h with rfl | rfl | rfl | rfl | rfl | rfl | rfl | rfl <;> rfl
  · unfold stCell; rw [if_neg h, if_neg h, if_neg (show ¬ 1 = i by omega)]
theorem st_set2 (u : Bool) (s : St) (x : Bool) : (stArr u s).setIfInBounds 2 (.bool x) = stArr u { s with started := x } := stArr_set fun i _ => by
  by_cases h : i < 8
  · rcases scal h with rfl | rfl | rfl | rfl | rfl | rfl | rfl | rfl <;> rfl
  · unfold stCell; rw [if_neg h, if_neg h, if_neg (show ¬ 2 = i by omega)]
theorem st_set3 (u : Bool) (s : St) (x : Int) : (stArr u s).setIfInBounds 3 (.int .u16 x) = stArr u { s with base := x } := stArr_set fun i _ => by
  by_cases h : i < 8
  · rcases scal h with rfl | rfl | rfl | rfl | rfl | rfl | rfl | rfl <;> rfl
  · unfold stCell; rw [if_neg h, if_neg h, if_neg (show ¬ 3 = i by omega)]
theorem st_set4 (u : Bool) (s : St) (x : Int) : (stArr u s).setIfInBounds 4 (.int .u32 x) = stArr u { s with cycles := x } := stArr_set fun i _ => by
  by_cases h : i < 8
  · rcases scal h with rfl | rfl | rfl | rfl | rfl | rfl | rfl | rfl <;> rfl
  · unfold stCell; rw [if_neg h, if_neg h, if_neg (show ¬ 4 = i by omega)]
theorem st_set5 (u : Bool) (s : St) (x : Int) : (stArr u s).setIfInBounds 5 (.int .i64 x) = stArr u { s with recv := x } := stArr_set fun i _ => by
  by_cases h : i < 8
  · rcases scal h with rfl | rfl | rfl | rfl | rfl | rfl | rfl | rfl <;> rfl
  · unfold stCell; rw [if_neg h, if_neg h, if_neg (show ¬ 5 = i by omega)]
theorem st_set6 (u : Bool) (s : St) (x : Int) : (stArr u s).setIfInBounds 6 (.int .i64 x) = stArr u { s with ep := x } := stArr_set fun i _ => by
  by_cases h : i < 8
  · rcases scal h with rfl | rfl | rfl | rfl | rfl | rfl | rfl | rfl <;> rfl
  · unfold stCell; rw [if_neg h, if_neg h, if_neg (show ¬ 6 = i by omega)]
theorem st_set7 (u : Bool) (s : St) (x : Int) : (stArr u s).setIfInBounds 7 (.int .i64 x) = stArr u { s with rp := x } := stArr_set fun i _ => by
  by_cases h : i < 8
  · rcases scal h with rfl | rfl | rfl | rfl | rfl | rfl | rfl | rfl <;> rfl
  · unfold stCell; rw [if_neg h, if_neg h, if_neg (show ¬ 7 = i by omega)]
theorem st_setTs (u : Bool) (s : St) (j : Nat) (x : Int) (hj : j < 128) : (stArr u s).setIfInBounds (8 + j) (.int .u32 x) = stArr u { s with ts := upd s.ts j x } := stArr_set fun i hi => by
  unfold stCell
  by_cases h : i < 8
  · rw [if_pos h, if_neg (by omega), if_pos h]; rfl
  · rw [if_neg h, if_neg h]
    by_cases h2 : i < 136
    · rw [if_pos h2, if_pos h2]
      by_cases e : 8 + j = i
      · rw [if_pos e]; exact congrArg (Value.int .u32) (if_pos (by omega))
      · rw [if_neg e]; exact congrArg (Value.int .u32) (if_neg (by omega))
    · rw [if_neg h2, if_neg h2, if_neg (by omega)]
theorem st_setTk (u : Bool) (s : St) (j : Nat) (x : Bool) (hj : j < 128) : (stArr u s).setIfInBounds (136 + j) (.bool x) = stArr u { s with tk := upd s.tk j x } := stArr_set fun i hi => by
  unfold stCell
  by_cases h : i < 8
  · rw [if_pos h, if_neg (by omega), if_pos h]; rfl
  · rw [if_neg h, if_neg h]
    by_cases h2 : i < 136
    · rw [if_pos h2, if_pos h2, if_neg (by omega)]
    · rw [if_neg h2, if_neg h2]
      by_cases e : 136 + j = i
      · rw [if_pos e]; exact congrArg Value.bool (if_pos (by omega))
      · rw [if_neg e]; exact congrArg Value.bool (if_neg (by omega))

theorem st_sz (u : Bool) (s : St) : ((stArr u s).size = 264) = True := eq_true (stArr_size u s)
theorem st_one (u : Bool) (s : St) : (stArr u s).all (·.oneCell') = true := by
  rw [Array.all_eq_true]
  intro i hi
  have h := stArr_get u s i (by rw [stArr_size] at hi; exact hi)
  rw [Array.getElem?_eq_getElem hi] at h
  rw [Option.some.inj h]
  unfold stCell head
  repeat' split
  all_goals rfl
theorem info27 : (Try.prog.info? 27).map (·.size) = some 264 := by kernel_rfl
theorem store_new (u : Bool) (s t : St) (w : World) (n : Nat) (hn : n = w.heap.size) :
    (storeCells ⟨n, 0, none⟩ (stArr u s).toList 0).run Try.prog (w.alloc (.cells (stArr u t) 27)) = .ok () (w.alloc (.cells (stArr u s) 27)) := by
  subst hn
  exact run_storeCells_new w 27 (stArr u t) (stArr u s) (by rw [stArr_size]; exact info27) (by rw [stArr_size, stArr_size]) (st_one u s)
theorem store_new_drew (u : Bool) (s t : St) (w : World) (n m : Nat) (hn : n = w.heap.size) :
    (storeCells ⟨n, 0, none⟩ (stArr u s).toList 0).run Try.prog ((w.alloc (.cells (stArr u t) 27)).drewN m) = .ok () ((w.alloc (.cells (stArr u s) 27)).drewN m) := by
  subst hn
  exact run_storeCells_new (w.drewN m) 27 (stArr u t) (stArr u s) (by rw [stArr_size]; exact info27) (by rw [stArr_size, stArr_size]) (st_one u s)
theorem store_new_drew1 (u : Bool) (s t : St) (w : World) (n : Nat) (hn : n = w.heap.size) :
    (storeCells ⟨n, 0, none⟩ (stArr u s).toList 0).run Try.prog ((w.alloc (.cells (stArr u t) 27)).drew) = .ok () ((w.alloc (.cells (stArr u s) 27)).drew) := store_new_drew u s t w n 1 hn

theorem setRow_past (w : World) (o : Obj) (n : Nat) (c : Array Value) (h : n < w.heap.size) : (w.alloc o).setRow n c = (w.setRow n c).alloc o := by
  unfold World.setRow World.alloc
  congr 1
  apply Array.ext_getElem?
  intro k
  simp only [Array.getElem?_modify, Array.getElem?_push, Array.size_modify]
  by_cases hk : k = w.heap.size
  · subst hk
    simp [Nat.ne_of_lt h]
  · simp [hk]
theorem store_row (u : Bool) (s t : St) (w : World) (g : Nat) (hg : blk w g 27 (stArr u t)) :
    (storeCells ⟨g, 0, none⟩ (stArr u s).toList 0).run Try.prog w = .ok () (w.setRow g (stArr u s)) := by
  have := run_storeVar_row (P := Try.prog) w g 27 27 (stArr u t) (stArr u s) hg (by rw [stArr_size]; exact info27) (by rw [stArr_size, stArr_size]) (st_one u s)
  obtain ⟨i, hq, hs⟩ := Option.map_eq_some_iff.1 info27
  simpa [storeVar, sizeOf, typeInfo, hq, hs, Value.cells, stArr_size] using this
theorem store_past (u : Bool) (s t : St) (w : World) (o : Obj) (n : Nat) (hn : n = w.heap.size) :
    (storeCells ⟨n, 0, none⟩ (stArr u s).toList 0).run Try.prog (((w.alloc (.cells (stArr u t) 27)).alloc o).drew) = .ok () (((w.alloc (.cells (stArr u s) 27)).alloc o).drew) := by
  subst hn
  have hb : blk (((w.alloc (.cells (stArr u t) 27)).alloc o).drew) w.heap.size 27 (stArr u t) := ((blk.new w _ _).alloc o)
  rw [store_row u s t _ _ hb]
  congr 1
  show (((w.alloc (.cells (stArr u t) 27)).alloc o).setRow w.heap.size (stArr u s)).drew = _
  rw [setRow_past _ _ _ _ (by show w.heap.size < (w.heap.push _).size; rw [Array.size_push]; omega), World.setRow_alloc_new]
theorem load_new (u : Bool) (s : St) (w : World) (n : Nat) (hn : n = w.heap.size) :
    (loadCellsFrom ⟨n, 0, none⟩ 0 264 #[]).run Try.prog ((w.alloc (.cells (stArr u s) 27)).drew) = .ok (stArr u s) ((w.alloc (.cells (stArr u s) 27)).drew) := by
  subst hn
  exact run_loadCellsFrom_new w.drew 27 (stArr u s) 264 (stArr_size u s)
theorem stArr_congr (u : Bool) {s t : St} (h : ∀ i, i < 8 → head s i = head t i) (ht : ∀ j, j < 128 → s.ts j = t.ts j) (hk : ∀ j, j < 128 → s.tk j = t.tk j) : stArr u s = stArr u t := by
  apply Array.ext_getElem?
  intro i
  by_cases hi : i < 264
  · rw [stArr_get u s i hi, stArr_get u t i hi]
    unfold stCell
    by_cases h8 : i < 8
    · rw [if_pos h8, if_pos h8, h i h8]
    · rw [if_neg h8, if_neg h8]
      by_cases h2 : i < 136
      · rw [if_pos h2, if_pos h2, ht _ (by omega)]
      · rw [if_neg h2, if_neg h2, hk _ (by omega)]
  · rw [Array.getElem?_eq_none (by rw [stArr_size]; omega), Array.getElem?_eq_none (by rw [stArr_size]; omega)]
theorem st_part_all (u : Bool) (s : St) : stArr u (part s 128) = stArr u s :=
  stArr_congr u (fun i h => rfl) (fun j h => if_pos h) (fun j h => if_pos h)

attribute [local go_sem] store_past load_new st_sz store_new store_new_drew store_new_drew1 setCell_drewN alloc_drewN win_ne st_ne win_lt st_lt nil0 win_get0 win_get1 win_get2 win_get3 win_get4 win_get5 win_get6 win_get7 st_get0 st_get1 st_get2 st_get3 st_get4 st_get5 st_get6 st_get7 st_set0 st_set1 st_set2 st_set3 st_set4 st_set5 st_set6 st_set7

set_option maxHeartbeats 1000000 in
theorem state_any (u : Bool) (s : St) (g : Nat) (w : World) (hg : blk w g 58 (winArr u s)) :
    Calls Try.prog 8 #[.pointer (some ⟨g, 0, none⟩)] w fun e w' => e = .returned (.agg (stArr u s)) ∧ w' = ((w.alloc (.cells (stArr u s) 27)).alloc (.cells (stArr u s) 27)).drew := by
  have hz := zero27 u
  have hl := hg.lt
  have hc := hg.cell
  clear hg
  go_enter Try.func8, Try.ntmps8
  go_wp2
  go_region_held3 (fun W => W.cell? ⟨g, 0, none⟩ = some (.int .u16 s.highest) ∧ W.cell? ⟨g, 1, none⟩ = some (.int .u32 s.restart) ∧ W.cell? ⟨g, 2, none⟩ = some (.bool s.started) ∧ W.cell? ⟨g, 3, none⟩ = some (.int .u16 s.base) ∧ W.cell? ⟨g, 4, none⟩ = some (.int .u32 s.cycles) ∧ W.cell? ⟨g, 5, none⟩ = some (.int .i64 s.recv) ∧ W.cell? ⟨g, 6, none⟩ = some (.int .i64 s.ep) ∧ W.cell? ⟨g, 7, none⟩ = some (.int .i64 s.rp)) (refine ⟨?_, ?_, ?_, ?_, ?_, ?_, ?_, ?_⟩ <;> go_simp) (fail)
  go_wp2
  clear hz
  go_loopw [4] (fun i wr => ∃ k : Nat, k ≤ 128 ∧ i = .int .i64 k ∧ wr = ((w.alloc (.cells (stArr u nil0) 27)).alloc (.cells (stArr u (part s k)) 27)).drew) (fun i _ => 128 - (intOf i).toNat)
  case atStart => exact ⟨0, by omega, rfl, by rw [part_zero]; rfl⟩
  case round =>
    obtain ⟨k, hk, rfl, rfl⟩ := hrel
    by_cases hlt : k < 128
    · have i0 : (0 : Int) ≤ (k : Int) := by omega
      have i1 : (k : Int) < 128 := by omega
      have gT := fun t => win_getTs u t k hlt
      have gK := fun t => win_getTk u t k hlt
      have sT := fun t x => st_setTs u t k x hlt
      have sK := fun t x => st_setTk u t k x hlt
      have aT := fun t => st_getTs u t k hlt
      have aK := fun t => st_getTk u t k hlt
      have hs : Hid ({ part s k with ts := upd (part s k).ts k (s.ts k), tk := upd (part s k).tk k (s.tk k) } = part s (k + 1)) := part_step s k
      go_wp2
      go_roundw
      case rel => exact ⟨k + 1, by omega, by go_num, by rw [← hs.out]; rfl⟩
      case measure => simp [intOf]; omega
    · have hk2 : k = 128 := by omega
      subst hk2
      rw [st_part_all]
      have hb : ∀ A, (((w.alloc A).alloc (.cells (stArr u s) 27)).drew).heap[w.heap.size + 1]? = some (.cells (stArr u s) 27 (0, 0)) := fun A => by
        have := blk.new (w.alloc A) (stArr u s) 27
        rw [show (w.alloc A).heap.size = w.heap.size + 1 from Array.size_push _] at this
        exact this
      have hi : (Try.prog.info? 27).map (·.size) = some (stArr u s).size := by rw [stArr_size]; exact info27
      have HB : Hid (∀ A, (((w.alloc A).alloc (.cells (stArr u s) 27)).drew).heap[w.heap.size + 1]? = some (.cells (stArr u s) 27 (0, 0))) := hb
      have HI : Hid ((Try.prog.info? 27).map (·.size) = some (stArr u s).size) := hi
      clear hb hi
      go_wp2_with (refine wpList_load_row rfl 27 _ rfl (w.heap.size + 1) rfl 27 (stArr u s) (0, 0) _ (HB.out _) Try.underlying27 rfl HI.out ?_)
      have hr : blk (((w.alloc (.cells (stArr u s) 27)).alloc (.cells (stArr u s) 27)).drew) w.heap.size 27 (stArr u s) := (blk.new w _ _).alloc _
      exact bodyPost_ret (v := .agg (stArr u s)) (results_cell_row Try.results8 _ _ w.heap.size 27 (stArr u s) (0, 0) _ rfl hr Try.underlying27 rfl HI.out) rfl ⟨rfl, rfl⟩
end Go.Proofs.Qxb6605266a.Seq
