import Derived.Test.Qxb6605266aPopZ
import Derived.Deep.MidRow
import Derived.Laws.MakeOwn
namespace Go.Proofs.Qxb6605266a.Pop
open Go Go.RowKit
open Go.Proofs.Qxb6605266a.Seq (blk)
set_option linter.unusedVariables false
set_option maxRecDepth 100000

/-- n frames in a row -/
def rowArr (F : Fs) (n : Nat) : Array Value := Array.ofFn (n := n * 26) fun j => frCell F (j.val / 26) (j.val % 26)
theorem rowArr_size (F : Fs) (n : Nat) : (rowArr F n).size = n * 26 := Array.size_ofFn
theorem rowArr_get (F : Fs) (n j : Nat) (h : j < n * 26) : (rowArr F n)[j]? = some (frCell F (j / 26) (j % 26)) := by simp [rowArr, h]
theorem rowArr_at (F : Fs) (n i k : Nat) (hi : i < n) (hk : k < 26) : (rowArr F n)[i * 26 + k]? = some (frCell F i k) := by
  rw [rowArr_get F n _ (by omega), show (i * 26 + k) / 26 = i by omega, show (i * 26 + k) % 26 = k by omega]
/-- the first k frames are laid, the others are zero -/
def partF (F : Fs) (k : Nat) : Fs :=
  ⟨fun i => if i < k then F.ts i else 0, fun i => if i < k then F.st i else 0, fun i => if i < k then F.sz i else 0, fun i => if i < k then F.ty i else ⟨#[]⟩, fun i => if i < k then F.oc i else fun _ => 0⟩
theorem partF_lt (F : Fs) (k i c : Nat) (h : i < k) : frCell (partF F k) i c = frCell F i c := by
  unfold frCell partF; simp only [if_pos h]
theorem partF_ge (F : Fs) (k i c : Nat) (h : ¬ i < k) : frCell (partF F k) i c = frCell (partF F 0) 0 c := by
  unfold frCell partF; simp only [if_neg h, if_neg (Nat.not_lt_zero _)]
theorem row_all (F : Fs) (n : Nat) : rowArr (partF F n) n = rowArr F n := by
  apply Array.ext_getElem?
  intro j
  by_cases h : j < n * 26
  · rw [rowArr_get _ _ _ h, rowArr_get _ _ _ h, partF_lt _ _ _ _ (by omega)]
  · rw [Array.getElem?_eq_none (by rw [rowArr_size]; omega), Array.getElem?_eq_none (by rw [rowArr_size]; omega)]
def zero26 : Array Value := Array.ofFn (n := 26) fun k => frCell (partF ⟨fun _ => 0, fun _ => 0, fun _ => 0, fun _ => ⟨#[]⟩, fun _ _ => 0⟩ 0) 0 k.val
theorem made_row (F : Fs) (n : Nat) : madeCells zero26 (n * 26) = rowArr (partF F 0) n := by
  apply Array.ext_getElem?
  intro j
  by_cases h : j < n * 26
  · rw [rowArr_get _ _ _ h, partF_ge _ _ _ _ (by omega)]
    have hz : zero26.size = 26 := Array.size_ofFn
    unfold madeCells
    rw [Array.getElem?_map, Array.getElem?_range, if_pos h]
    simp only [Option.map_some, hz]
    rw [getElem!_pos zero26 (j % 26) (by rw [hz]; omega)]
    simp only [zero26, Array.getElem_ofFn]
    congr 1
  · rw [Array.getElem?_eq_none (by rw [size_madeCells]; omega), Array.getElem?_eq_none (by rw [rowArr_size]; omega)]
theorem setCells_setRow (w : World) (g : Nat) : ∀ (vs : List Value) (o : Nat) (cs : Array Value), ∃ cs' : Array Value, (w.setRow g cs).setCells g o vs = w.setRow g cs' ∧ cs'.size = cs.size ∧ ∀ j, cs'[j]? = if o ≤ j ∧ j < o + vs.length ∧ j < cs.size then vs[j - o]? else cs[j]?
  | [], o, cs => ⟨cs, rfl, rfl, fun j => by simp; omega⟩
  | v :: vs, o, cs => by
    obtain ⟨cs', h1, h2, h3⟩ := setCells_setRow w g vs (o + 1) (cs.setIfInBounds o v)
    refine ⟨cs', ?_, by rw [h2, Array.size_setIfInBounds], fun j => ?_⟩
    · show ((w.setRow g cs).setCell ⟨g, o, none⟩ v).setCells g (o + 1) vs = _
      rw [Seq.setCell_setRow, h1]
    · rw [h3 j, Array.size_setIfInBounds, Array.getElem?_setIfInBounds]
      by_cases c : o + 1 ≤ j ∧ j < o + 1 + vs.length ∧ j < cs.size
      · rw [if_pos c, if_pos (by simp; omega), show j - o = (j - (o + 1)) + 1 by omega, List.getElem?_cons_succ]
      · rw [if_neg c]
        by_cases e : o = j
        · subst e
          rw [if_pos rfl]
          by_cases l : o < cs.size
          · rw [if_pos l, if_pos (by simp; omega), Nat.sub_self]; rfl
          · rw [if_neg l, if_neg (by omega), Array.getElem?_eq_none (by omega)]
        · rw [if_neg e, if_neg (by simp; omega)]

theorem fr_one (u : Bool) (F : Fs) (i : Nat) : (frArr u F i).all (·.oneCell') = true := by
  rw [Array.all_eq_true]
  intro k hk
  have h := frArr_get u F i k (by rw [frArr_size] at hk; exact hk)
  rw [Array.getElem?_eq_getElem hk] at h
  rw [Option.some.inj h]
  unfold frCell
  repeat' split
  all_goals rfl

/-- frame i stored into the row -/
theorem store_frame (u : Bool) (F : Fs) (n i T h : Nat) (ty : TypeId) (w : World) (hT : (Try.prog.info? ty).map (·.size) = some 26) (hi : i < n) (hb : blk w h T (rowArr (partF F i) n)) :
    (Instr.storeAt ty (.pointer (some ⟨h, i * 26, none⟩)) (.agg (frArr u F i))).run Try.prog w = .ok () (w.setRow h (rowArr (partF F (i + 1)) n)) := by
  have ht : w.there h (i * 26) (frArr u F i).size := fun j hj => by
    rw [frArr_size] at hj
    exact ⟨by rw [hb.cell, rowArr_at _ _ _ _ hi hj]; rfl, hb.frozen _⟩
  rw [run_storeAt_mid w h (i * 26) ty (frArr u F i) ht (by rw [frArr_size]; exact hT) (fr_one u F i)]
  congr 1
  obtain ⟨cs', h1, h2, h3⟩ := setCells_setRow w h (frArr u F i).toList (i * 26) (rowArr (partF F i) n)
  rw [hb.self] at h1
  rw [h1]
  congr 1
  apply Array.ext_getElem?
  intro j
  rw [h3 j, rowArr_size, Array.length_toList, frArr_size]
  by_cases hj : j < n * 26
  · rw [rowArr_get (partF F i) _ _ hj, rowArr_get (partF F (i + 1)) _ _ hj]
    by_cases c : i * 26 ≤ j ∧ j < i * 26 + 26 ∧ j < n * 26
    · rw [if_pos c, Array.getElem?_toList, frArr_get u F i _ (by omega), partF_lt _ _ _ _ (by omega), show j / 26 = i by omega, show j % 26 = j - i * 26 by omega]
    · rw [if_neg c]
      by_cases d : j / 26 < i
      · rw [partF_lt F i _ _ d, partF_lt F (i + 1) _ _ (by omega)]
      · rw [partF_ge F i _ _ d, partF_ge F (i + 1) _ _ (by omega)]
  · rw [if_neg (by omega), Array.getElem?_eq_none (by rw [rowArr_size]; omega), Array.getElem?_eq_none (by rw [rowArr_size]; omega)]

/-- a frame's octets read -/
theorem load_oct (u : Bool) (f : Nat → Int) (b o : Nat) (w : World) (h : w.rangeAt b o (ocArr u f).toList) :
    (Instr.loadAt 37 (.pointer (some ⟨b, o, none⟩))).run Try.prog w = .ok (.agg (ocArr u f)) w := by
  have := run_loadAt_mid (P := Try.prog) w b o 37 (ocArr u f).toList _ h Try.underlying37 rfl (by rw [Array.length_toList, ocArr_size]; kernel_rfl)
  exact this
theorem build41t (F : Fs) (i : Nat) (w : World) :
    (Instr.build 41 #[(0, .int .u32 (F.ts i)), (1, .int .u8 (F.st i)), (2, .int .u8 (F.sz i)), (3, .string (F.ty i)), (4, .agg (ocArr true (F.oc i)))]).run Try.prog w = .ok (.agg (frArr true F i)) w := by kernel_rfl
theorem build41 (u : Bool) (F : Fs) (i : Nat) (w : World) :
    (Instr.build 41 #[(0, .int .u32 (F.ts i)), (1, .int .u8 (F.st i)), (2, .int .u8 (F.sz i)), (3, .string (F.ty i)), (4, .agg (ocArr u (F.oc i)))]).run Try.prog w = .ok (.agg (frArr u F i)) w := by
  rw [oc_key u true, fr_key u true]; exact build41t F i w
theorem build65t (F : Fs) (i : Nat) (w : World) :
    (Instr.build 65 #[(0, .int .u32 (F.ts i)), (1, .int .u8 (F.st i)), (2, .int .u8 (F.sz i)), (3, .string (F.ty i)), (4, .agg (ocArr true (F.oc i)))]).run Try.prog w = .ok (.agg (frArr true F i)) w := by kernel_rfl
theorem build65 (u : Bool) (F : Fs) (i : Nat) (w : World) :
    (Instr.build 65 #[(0, .int .u32 (F.ts i)), (1, .int .u8 (F.st i)), (2, .int .u8 (F.sz i)), (3, .string (F.ty i)), (4, .agg (ocArr u (F.oc i)))]).run Try.prog w = .ok (.agg (frArr u F i)) w := by
  rw [oc_key u true, fr_key u true]; exact build65t F i w
theorem info41 : (Try.prog.info? 41).map (·.size) = some 26 := by kernel_rfl
theorem info65 : (Try.prog.info? 65).map (·.size) = some 26 := by kernel_rfl
theorem info39 : (Try.prog.info? 39).map (·.size) = some 26 := by kernel_rfl
/-- the octets of a frame that lies in a row -/
theorem range_oct {w : World} {b o : Nat} {F : Fs} {i : Nat} (u : Bool) (h : ∀ k, k < 26 → w.cell? ⟨b, o + k, none⟩ = some (frCell F i k)) : w.rangeAt b (o + 4) (ocArr u (F.oc i)).toList := fun j v hv => by
  have hj : j < 22 := by
    have := (List.getElem?_eq_some_iff.1 hv).1
    rw [Array.length_toList, ocArr_size] at this; exact this
  rw [Array.getElem?_toList, ocArr_get u _ _ hj] at hv
  rw [← Option.some.inj hv, Nat.add_assoc, h (4 + j) (by omega)]
  unfold frCell
  rw [if_neg (by omega), if_neg (by omega), if_neg (by omega), if_neg (by omega), show 4 + j - 4 = j by omega]
end Go.Proofs.Qxb6605266a.Pop
