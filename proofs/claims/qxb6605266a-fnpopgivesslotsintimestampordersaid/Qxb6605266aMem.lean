import Derived.Test.Qxb6605266aPlain
import Derived.WalkKit
import Derived.RowKit3
import Derived.Laws.Tables
import Derived.Laws.Rows
import Derived.Laws.CopyRow
import Derived.Deep.Draws
namespace Go.Proofs.Qxb6605266a.Seq
open Go Go.RowKit

/-- block g holds the cells cs, of type T, none of them frozen -/
def blk (w : World) (g : Nat) (T : TypeId) (cs : Array Value) : Prop := w.heap[g]? = some (.cells cs T (0, 0))

theorem setCell_setRow (w : World) (g j : Nat) (cs : Array Value) (v : Value) : (w.setRow g cs).setCell ⟨g, j, none⟩ v = w.setRow g (cs.setIfInBounds j v) := by
  unfold World.setCell World.setRow
  congr 1
  apply Array.ext_getElem?
  intro k
  simp only [Array.getElem?_modify]
  by_cases h : g = k
  · subst h
    simp only [if_true, Option.map_map]
    congr 1
    funext o
    cases o <;> rfl
  · simp [h]
theorem blk.cell {w : World} {g : Nat} {T : TypeId} {cs : Array Value} (h : blk w g T cs) (j : Nat) : w.cell? ⟨g, j, none⟩ = cs[j]? := cell_of_row w g j cs T (0, 0) h
theorem blk.row {w : World} {g : Nat} {T : TypeId} {cs : Array Value} (h : blk w g T cs) (cs' : Array Value) : blk (w.setRow g cs') g T cs' := setRow_heap w g cs cs' T (0, 0) h
theorem blk.frozen {w : World} {g : Nat} {T : TypeId} {cs : Array Value} (h : blk w g T cs) (j : Nat) : w.frozen? ⟨g, j, none⟩ = false := by
  simp [World.frozen?, show w.heap[g]? = _ from h]
theorem blk.self {w : World} {g : Nat} {T : TypeId} {cs : Array Value} (h : blk w g T cs) : w.setRow g cs = w := setRow_self w g cs T (0, 0) h
theorem blk.other {w : World} {g k : Nat} {T : TypeId} {cs : Array Value} (h : blk w g T cs) (c' : Array Value) (ne : g ≠ k) : blk (w.setRow k c') g T cs := by
  unfold blk; rw [setRow_other w k g c' ne]; exact h
theorem blk.alloc {w : World} {g : Nat} {T : TypeId} {cs : Array Value} (h : blk w g T cs) (o : Obj) : blk (w.alloc o) g T cs := by
  unfold blk; rw [Below.heap_alloc w o g (Array.getElem?_eq_some_iff.1 h).1]; exact h
theorem blk.new (w : World) (cs : Array Value) (T : TypeId) : blk (w.alloc (.cells cs T)) w.heap.size T cs := heap_alloc_new w _
theorem blk.lt {w : World} {g : Nat} {T : TypeId} {cs : Array Value} (h : blk w g T cs) : g < w.heap.size := (Array.getElem?_eq_some_iff.1 h).1
theorem blk.drewN {w : World} {g : Nat} {T : TypeId} {cs : Array Value} (h : blk w g T cs) (n : Nat) : blk (w.drewN n) g T cs := h

theorem grown_trans {a b c : World} (h : Grown a b) (k : Grown b c) : Grown a c :=
  ⟨World.keptBut_trans h.1 k.1, fun x => (k.2.1 x).trans (h.2.1 x), Nat.le_trans h.2.2 k.2.2⟩
theorem grown_drewN {a b : World} (h : Grown a b) (n : Nat) : Grown a (b.drewN n) := h

theorem grown_setRow {W w : World} (h : Grown W w) {g : Nat} (hg : W.heap.size ≤ g) {old : Array Value} {T : TypeId} (hb : blk w g T old) (cs : Array Value) : Grown W (w.setRow g cs) := by
  refine ⟨⟨h.1.1, h.1.2.1, fun i hi => ?_⟩, fun a => ?_, ?_⟩
  · have x := h.1.2.2 i hi
    rw [setRow_other w g i cs (by omega)]
    exact x
  · rw [← h.2.1 a]
    by_cases e : a.block = g
    · unfold World.frozen?
      rw [e, show (w.setRow g cs).heap[g]? = _ from hb.row cs, show w.heap[g]? = _ from hb]
    · unfold World.frozen?
      rw [setRow_other w g a.block cs e]
  · rw [setRow_size]; exact h.2.2

/-- one store, in the plain -/
def upd {α : Type} (f : Nat → α) (j : Nat) (x : α) : Nat → α := fun i => if i = j then x else f i

theorem winArr_set {u : Bool} {s s' : St} {o : Nat} {v : Value} (h : ∀ i, i < 275 → winCell s' i = if o = i then v else winCell s i) : (winArr u s).setIfInBounds o v = winArr u s' := by
  apply Array.ext_getElem?
  intro i
  rw [Array.getElem?_setIfInBounds]
  by_cases hi : i < 275
  · rw [winArr_get u s i hi, winArr_get u s' i hi, h i hi]
    by_cases e : o = i
    · subst e; simp [winArr_size, hi]
    · simp [e]
  · have n1 : (winArr u s)[i]? = none := Array.getElem?_eq_none (by rw [winArr_size]; omega)
    have n2 : (winArr u s')[i]? = none := Array.getElem?_eq_none (by rw [winArr_size]; omega)
    rw [n1, n2, winArr_size]
    by_cases e : o = i
    · rw [if_pos e, if_neg (by omega)]
    · rw [if_neg e]
theorem scal {i : Nat} (h : i < 8) : i = 0 ∨ i = 1 ∨ i = 2 ∨ i = 3 ∨ i = 4 ∨ i = 5 ∨ i = 6 ∨ i = 7 := by omega
theorem win_set0 (u : Bool) (s : St) (x : Int) : (winArr u s).setIfInBounds 0 (.int .u16 x) = winArr u { s with highest := x } := winArr_set fun i _ => by
  by_cases h : i < 8
  · rcases scal h with rfl | rfl | rfl | rfl | rfl | rfl | rfl | rfl <;> rfl
  · unfold winCell; rw [if_neg h, if_neg h, if_neg (show ¬ 0 = i by omega)]
theorem win_set1 (u : Bool) (s : St) (x : Int) : (winArr u s).setIfInBounds 1 (.int .u32 x) = winArr u { s with restart := x } := winArr_set fun i _ => by
  by_cases h : i < 8
  · rcases scal h with rfl | rfl | rfl | rfl | rfl | rfl | rfl | rfl <;> rfl
  · unfold winCell; rw [if_neg h, if_neg h, if_neg (show ¬ 1 = i by omega)]
theorem win_set2 (u : Bool) (s : St) (x : Bool) : (winArr u s).setIfInBounds 2 (.bool x) = winArr u { s with started := x } := winArr_set fun i _ => by
  by_cases h : i < 8
  · rcases scal h with rfl | rfl | rfl | rfl | rfl | rfl | rfl | rfl <;> rfl
  · unfold winCell; rw [if_neg h, if_neg h, if_neg (show ¬ 2 = i by omega)]
theorem win_set3 (u : Bool) (s : St) (x : Int) : (winArr u s).setIfInBounds 3 (.int .u16 x) = winArr u { s with base := x } := winArr_set fun i _ => by
  by_cases h : i < 8
  · rcases scal h with rfl | rfl | rfl | rfl | rfl | rfl | rfl | rfl <;> rfl
  · unfold winCell; rw [if_neg h, if_neg h, if_neg (show ¬ 3 = i by omega)]
theorem win_set4 (u : Bool) (s : St) (x : Int) : (winArr u s).setIfInBounds 4 (.int .u32 x) = winArr u { s with cycles := x } := winArr_set fun i _ => by
  by_cases h : i < 8
  · rcases scal h with rfl | rfl | rfl | rfl | rfl | rfl | rfl | rfl <;> rfl
  · unfold winCell; rw [if_neg h, if_neg h, if_neg (show ¬ 4 = i by omega)]
theorem win_set5 (u : Bool) (s : St) (x : Int) : (winArr u s).setIfInBounds 5 (.int .i64 x) = winArr u { s with recv := x } := winArr_set fun i _ => by
  by_cases h : i < 8
  · rcases scal h with rfl | rfl | rfl | rfl | rfl | rfl | rfl | rfl <;> rfl
  · unfold winCell; rw [if_neg h, if_neg h, if_neg (show ¬ 5 = i by omega)]
theorem win_set6 (u : Bool) (s : St) (x : Int) : (winArr u s).setIfInBounds 6 (.int .i64 x) = winArr u { s with ep := x } := winArr_set fun i _ => by
  by_cases h : i < 8
  · rcases scal h with rfl | rfl | rfl | rfl | rfl | rfl | rfl | rfl <;> rfl
  · unfold winCell; rw [if_neg h, if_neg h, if_neg (show ¬ 6 = i by omega)]
theorem win_set7 (u : Bool) (s : St) (x : Int) : (winArr u s).setIfInBounds 7 (.int .i64 x) = winArr u { s with rp := x } := winArr_set fun i _ => by
  by_cases h : i < 8
  · rcases scal h with rfl | rfl | rfl | rfl | rfl | rfl | rfl | rfl <;> rfl
  · unfold winCell; rw [if_neg h, if_neg h, if_neg (show ¬ 7 = i by omega)]
theorem win_setTs (u : Bool) (s : St) (j : Nat) (x : Int) (hj : j < 128) : (winArr u s).setIfInBounds (8 + j * 2) (.int .u32 x) = winArr u { s with ts := upd s.ts j x } := winArr_set fun i hi => by
  unfold winCell
  by_cases h : i < 8
  · rw [if_pos h, if_neg (by omega), if_pos h]; rfl
  · rw [if_neg h, if_neg h]
    by_cases h2 : i < 264
    · rw [if_pos h2, if_pos h2]
      by_cases hp : i % 2 = 0
      · rw [if_pos hp, if_pos hp]
        by_cases e : 8 + j * 2 = i
        · rw [if_pos e]; exact congrArg (Value.int .u32) (if_pos (by omega))
        · rw [if_neg e]; exact congrArg (Value.int .u32) (if_neg (by omega))
      · rw [if_neg hp, if_neg hp, if_neg (by omega)]
    · rw [if_neg h2, if_neg h2, if_neg (by omega)]
theorem win_setTk (u : Bool) (s : St) (j : Nat) (x : Bool) (hj : j < 128) : (winArr u s).setIfInBounds (8 + j * 2 + 1) (.bool x) = winArr u { s with tk := upd s.tk j x } := winArr_set fun i hi => by
  unfold winCell
  by_cases h : i < 8
  · rw [if_pos h, if_neg (by omega), if_pos h]; rfl
  · rw [if_neg h, if_neg h]
    by_cases h2 : i < 264
    · rw [if_pos h2, if_pos h2]
      by_cases hp : i % 2 = 0
      · rw [if_pos hp, if_pos hp]
        rw [if_neg (by omega)]
      · rw [if_neg hp, if_neg hp]
        by_cases e : 8 + j * 2 + 1 = i
        · rw [if_pos e]; exact congrArg Value.bool (if_pos (by omega))
        · rw [if_neg e]; exact congrArg Value.bool (if_neg (by omega))
    · rw [if_neg h2, if_neg h2, if_neg (by omega)]

theorem win_get0 (u : Bool) (s : St) : (winArr u s)[0]? = some (.int .u16 s.highest) := winArr_get u s 0 (by omega)
theorem win_get1 (u : Bool) (s : St) : (winArr u s)[1]? = some (.int .u32 s.restart) := winArr_get u s 1 (by omega)
theorem win_get2 (u : Bool) (s : St) : (winArr u s)[2]? = some (.bool s.started) := winArr_get u s 2 (by omega)
theorem win_get3 (u : Bool) (s : St) : (winArr u s)[3]? = some (.int .u16 s.base) := winArr_get u s 3 (by omega)
theorem win_get4 (u : Bool) (s : St) : (winArr u s)[4]? = some (.int .u32 s.cycles) := winArr_get u s 4 (by omega)
theorem win_get5 (u : Bool) (s : St) : (winArr u s)[5]? = some (.int .i64 s.recv) := winArr_get u s 5 (by omega)
theorem win_get6 (u : Bool) (s : St) : (winArr u s)[6]? = some (.int .i64 s.ep) := winArr_get u s 6 (by omega)
theorem win_get7 (u : Bool) (s : St) : (winArr u s)[7]? = some (.int .i64 s.rp) := winArr_get u s 7 (by omega)
theorem win_getTs (u : Bool) (s : St) (j : Nat) (hj : j < 128) : (winArr u s)[8 + j * 2]? = some (.int .u32 (s.ts j)) := by
  rw [winArr_get u s _ (by omega)]
  unfold winCell
  rw [if_neg (by omega), if_pos (by omega), if_pos (by omega), show (8 + j * 2 - 8) / 2 = j by omega]
theorem win_getTk (u : Bool) (s : St) (j : Nat) (hj : j < 128) : (winArr u s)[8 + j * 2 + 1]? = some (.bool (s.tk j)) := by
  rw [winArr_get u s _ (by omega)]
  unfold winCell
  rw [if_neg (by omega), if_pos (by omega), if_neg (by omega), show (8 + j * 2 + 1 - 8) / 2 = j by omega]

end Go.Proofs.Qxb6605266a.Seq
