import Derived.Test.Qxb6605266aRows
import Derived.Test.Qxb6605266aMem
import Derived.WalkSpells
import Derived.WalkLawsBesides
import Derived.Deep.RegionHeld3
import Derived.Outline
namespace Go.Proofs.Qxb6605266a.Seq
open Go Go.RowKit
set_option linter.unusedVariables false
set_option maxRecDepth 100000

/-- a window as '&seqWindow{highest: .., restart: .., started: ..}' makes it -/
def bare (h r : Int) (b : Bool) : St := ⟨h, r, b, 0, 0, 0, 0, 0, fun _ => 0, fun _ => false⟩
theorem zero58t (w : World) : (zeroValue 58).run Try.prog w = .ok (.agg (winArr true (bare 0 0 false))) w := by kernel_rfl
theorem setCell_drewN (w : World) (n : Nat) (a : Addr) (v : Value) : (w.drewN n).setCell a v = (w.setCell a v).drewN n := rfl
theorem alloc_drewN (w : World) (n : Nat) (o : Obj) : (w.drewN n).alloc o = (w.alloc o).drewN n := rfl
theorem win_key (u v : Bool) (s : St) : winArr u s = winArr v s := by cases u <;> cases v <;> rfl
theorem st_key (u v : Bool) (s : St) : stArr u s = stArr v s := by cases u <;> cases v <;> rfl

theorem zero58 (u : Bool) (w : World) : (zeroValue 58).run Try.prog w = .ok (.agg (winArr u (bare 0 0 false))) w := by rw [win_key u true]; exact zero58t w
theorem win_ne (u : Bool) (s : St) : (winArr u s = #[]) = False := eq_false fun h => by
  have := winArr_size u s; rw [h] at this; exact absurd this (by decide)
theorem st_ne (u : Bool) (s : St) : (stArr u s = #[]) = False := eq_false fun h => by
  have := stArr_size u s; rw [h] at this; exact absurd this (by decide)
theorem win_lt (u : Bool) (s : St) (n : Nat) (h : n ≤ 275) : ((winArr u s).size < n) = False := eq_false (by rw [winArr_size]; omega)
theorem st_lt (u : Bool) (s : St) (n : Nat) (h : n ≤ 264) : ((stArr u s).size < n) = False := eq_false (by rw [stArr_size]; omega)
theorem st_get0 (u : Bool) (s : St) : (stArr u s)[0]? = some (.int .u16 s.highest) := stArr_get u s 0 (by omega)
theorem st_get1 (u : Bool) (s : St) : (stArr u s)[1]? = some (.int .u32 s.restart) := stArr_get u s 1 (by omega)
theorem st_get2 (u : Bool) (s : St) : (stArr u s)[2]? = some (.bool s.started) := stArr_get u s 2 (by omega)
theorem st_get3 (u : Bool) (s : St) : (stArr u s)[3]? = some (.int .u16 s.base) := stArr_get u s 3 (by omega)
theorem st_get4 (u : Bool) (s : St) : (stArr u s)[4]? = some (.int .u32 s.cycles) := stArr_get u s 4 (by omega)
theorem st_get5 (u : Bool) (s : St) : (stArr u s)[5]? = some (.int .i64 s.recv) := stArr_get u s 5 (by omega)
theorem st_get6 (u : Bool) (s : St) : (stArr u s)[6]? = some (.int .i64 s.ep) := stArr_get u s 6 (by omega)
theorem st_get7 (u : Bool) (s : St) : (stArr u s)[7]? = some (.int .i64 s.rp) := stArr_get u s 7 (by omega)
theorem st_getTs (u : Bool) (s : St) (k : Nat) (h : k < 128) : (stArr u s)[8 + k]? = some (.int .u32 (s.ts k)) := by
  rw [stArr_get u s _ (by omega)]; unfold stCell
  rw [if_neg (by omega), if_pos (by omega), show 8 + k - 8 = k by omega]
theorem st_getTk (u : Bool) (s : St) (k : Nat) (h : k < 128) : (stArr u s)[136 + k]? = some (.bool (s.tk k)) := by
  rw [stArr_get u s _ (by omega)]; unfold stCell
  rw [if_neg (by omega), if_neg (by omega), show 136 + k - 136 = k by omega]

attribute [local go_sem] setCell_drewN alloc_drewN win_ne st_ne win_lt st_lt bare win_set0 win_set1 win_set2 win_set3 win_set4 win_set5 win_set6 win_set7 win_get0 win_get1 win_get2 win_get3 win_get4 win_get5 win_get6 win_get7 st_get0 st_get1 st_get2 st_get3 st_get4 st_get5 st_get6 st_get7

/-- the first k slots are filled in -/
def part (s : St) (k : Nat) : St := { s with ts := fun j => if j < k then s.ts j else 0, tk := fun j => if j < k then s.tk j else false }
theorem part_step (s : St) (k : Nat) : { part s k with ts := upd (part s k).ts k (s.ts k), tk := upd (part s k).tk k (s.tk k) } = part s (k + 1) := by
  have e1 : upd (part s k).ts k (s.ts k) = (part s (k + 1)).ts := by
    funext j
    show (if j = k then s.ts k else if j < k then s.ts j else 0) = if j < k + 1 then s.ts j else 0
    by_cases e : j = k
    · subst e; rw [if_pos rfl, if_pos (by omega)]
    · rw [if_neg e]
      by_cases h : j < k
      · rw [if_pos h, if_pos (by omega)]
      · rw [if_neg h, if_neg (by omega)]
  have e2 : upd (part s k).tk k (s.tk k) = (part s (k + 1)).tk := by
    funext j
    show (if j = k then s.tk k else if j < k then s.tk j else false) = if j < k + 1 then s.tk j else false
    by_cases e : j = k
    · subst e; rw [if_pos rfl, if_pos (by omega)]
    · rw [if_neg e]
      by_cases h : j < k
      · rw [if_pos h, if_pos (by omega)]
      · rw [if_neg h, if_neg (by omega)]
  rw [e1, e2]
  rfl
theorem part_zero (s : St) : part s 0 = { s with ts := fun _ => 0, tk := fun _ => false } := by
  have e1 : (part s 0).ts = fun _ => 0 := by funext j; show (if j < 0 then s.ts j else 0) = 0; exact if_neg (Nat.not_lt_zero _)
  have e2 : (part s 0).tk = fun _ => false := by funext j; show (if j < 0 then s.tk j else false) = false; exact if_neg (Nat.not_lt_zero _)
  show { s with ts := (part s 0).ts, tk := (part s 0).tk } = _
  rw [e1, e2]
theorem winArr_congr (u : Bool) {s t : St} (h : ∀ i, i < 8 → head s i = head t i) (ht : ∀ j, j < 128 → s.ts j = t.ts j) (hk : ∀ j, j < 128 → s.tk j = t.tk j) : winArr u s = winArr u t := by
  apply Array.ext_getElem?
  intro i
  by_cases hi : i < 275
  · rw [winArr_get u s i hi, winArr_get u t i hi]
    unfold winCell
    by_cases h8 : i < 8
    · rw [if_pos h8, if_pos h8, h i h8]
    · rw [if_neg h8, if_neg h8]
      by_cases h2 : i < 264
      · rw [if_pos h2, if_pos h2, ht _ (by omega), hk _ (by omega)]
      · rw [if_neg h2, if_neg h2]
  · rw [Array.getElem?_eq_none (by rw [winArr_size]; omega), Array.getElem?_eq_none (by rw [winArr_size]; omega)]
theorem part_all (u : Bool) (s : St) : winArr u (part s 128) = winArr u s :=
  winArr_congr u (fun i h => rfl) (fun j h => if_pos h) (fun j h => if_pos h)

set_option maxHeartbeats 1000000 in
theorem new_any (u : Bool) (s : St) (w : World) :
    Calls Try.prog 6 #[.agg (stArr u s)] w fun e w' => e = .returned (.pointer (some ⟨w.heap.size + 1, 0, none⟩)) ∧ ∃ n, w' = ((w.alloc (.cells (stArr u s) 27)).alloc (.cells (winArr u s) 58)).drewN n := by
  have hz := zero58 u
  go_enter Try.func6, Try.ntmps6
  go_wp2
  clear hz
  go_loopw [4] (fun i wr => ∃ k n : Nat, k ≤ 128 ∧ i = .int .i64 k ∧ wr = ((w.alloc (.cells (stArr u s) 27)).alloc (.cells (winArr u (part s k)) 58)).drewN n) (fun i _ => 128 - (intOf i).toNat)
  case atStart => exact ⟨0, 0, by omega, rfl, by rw [part_zero]; rfl⟩
  case round =>
    obtain ⟨k, n, hk, rfl, rfl⟩ := hrel
    by_cases hlt : k < 128
    · have i0 : (0 : Int) ≤ (k : Int) := by omega
      have i1 : (k : Int) < 128 := by omega
      have gT := fun t => win_getTs u t k hlt
      have gK := fun t => win_getTk u t k hlt
      have sT := fun t x => win_setTs u t k x hlt
      have sK := fun t x => win_setTk u t k x hlt
      have aT := st_getTs u s k hlt
      have aK := st_getTk u s k hlt
      have hs : Hid ({ part s k with ts := upd (part s k).ts k (s.ts k), tk := upd (part s k).tk k (s.tk k) } = part s (k + 1)) := part_step s k
      go_wp2
      go_region_held3 (fun W => W.cell? ⟨w.heap.size, 8 + k, none⟩ = some (.int .u32 (s.ts k)) ∧ W.cell? ⟨w.heap.size, 136 + k, none⟩ = some (.bool (s.tk k))) (first | (go_keep; done) | (refine ⟨?_, ?_⟩ <;> go_simp)) (fail)
      all_goals go_wp2
      go_roundw
      case rel => exact ⟨k + 1, n + 1, by omega, by go_num, by rw [← hs.out]⟩
      case measure => simp [intOf]; omega
    · have hk2 : k = 128 := by omega
      subst hk2
      go_wp2
      go_ret
      exact ⟨rfl, n, by rw [part_all]⟩
end Go.Proofs.Qxb6605266a.Seq
