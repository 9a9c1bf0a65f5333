import Derived.Test.Qxb6605266aPopN
namespace Go.Proofs.Qxb6605266a.Pop
open Go Go.RowKit
open Go.Proofs.Qxb6605266a.Seq (blk)
set_option linter.unusedVariables false
set_option maxRecDepth 100000

theorem make61 (F : Fs) (n : Nat) (hn : n ≤ 4096) (W : World) : (Instr.makeSlice 61 (.int .i64 n) (.int .i64 n)).run Try.prog W = .ok (.slice (some ⟨W.heap.size, 0, none⟩) n n) (W.alloc (.cells (rowArr (partF F 0) n) 65)) := by
  obtain ⟨i, hq, hs⟩ := Option.map_eq_some_iff.1 info65
  have hz : i.zero = some (.agg zero26) := by
    have : (Try.prog.info? 65).bind (·.zero) = some (.agg zero26) := by kernel_rfl
    rw [hq] at this; exact this
  have hb : i.bytes = 48 := by
    have : (Try.prog.info? 65).map (·.bytes) = some 48 := by kernel_rfl
    rw [hq] at this; exact Option.some.inj this
  rw [run_make W 61 65 i _ Try.underlying61 hq hz .i64 .i64 n n (by omega) (by omega) (by rw [hb]; omega) (by omega), hs]
  simp only [Int.toNat_natCast]
  rw [show (Value.agg zero26).cells = zero26 from rfl, made_row F n]
theorem make40 (F : Fs) (n : Nat) (hn : n ≤ 4096) (W : World) : (Instr.makeSlice 40 (.int .i64 n) (.int .i64 n)).run Try.prog W = .ok (.slice (some ⟨W.heap.size, 0, none⟩) n n) (W.alloc (.cells (rowArr (partF F 0) n) 41)) := by
  obtain ⟨i, hq, hs⟩ := Option.map_eq_some_iff.1 info41
  have hz : i.zero = some (.agg zero26) := by
    have : (Try.prog.info? 41).bind (·.zero) = some (.agg zero26) := by kernel_rfl
    rw [hq] at this; exact this
  have hb : i.bytes = 48 := by
    have : (Try.prog.info? 41).map (·.bytes) = some 48 := by kernel_rfl
    rw [hq] at this; exact Option.some.inj this
  rw [run_make W 40 41 i _ Try.underlying40 hq hz .i64 .i64 n n (by omega) (by omega) (by rw [hb]; omega) (by omega), hs]
  simp only [Int.toNat_natCast]
  rw [show (Value.agg zero26).cells = zero26 from rfl, made_row F n]
theorem store_cells (u : Bool) (F : Fs) (n i T h : Nat) (w : World) (hi : i < n) (hb : blk w h T (rowArr (partF F i) n)) :
    (storeCells ⟨h, i * 26, none⟩ (frArr u F i).toList 0).run Try.prog w = .ok () (w.setRow h (rowArr (partF F (i + 1)) n)) := by
  have := store_frame u F n i T h 65 w info65 hi hb
  obtain ⟨x, hq, hs⟩ := Option.map_eq_some_iff.1 info65
  simpa [Instr.storeAt, Instr.sureAddr, storeVar, sizeOf, typeInfo, hq, hs, Value.cells, frArr_size] using this
theorem fr_sz (u : Bool) (F : Fs) (i : Nat) : ((frArr u F i).size = 26) = True := eq_true (frArr_size u F i)
theorem info37 : (Try.prog.info? 37).map (·.size) = some 22 := by kernel_rfl
theorem qu_ne (u : Bool) (K : Ks) (q : Qs) : (quArr u K q = #[]) = False := eq_false fun h => by cases u <;> cases h
theorem qu_size (u : Bool) (K : Ks) (q : Qs) : (quArr u K q).size = 12 := by cases u <;> rfl
theorem qu_lt (u : Bool) (K : Ks) (q : Qs) (n : Nat) (h : n ≤ 12) : ((quArr u K q).size < n) = False := eq_false (by rw [qu_size]; omega)
theorem qu_get0 (u : Bool) (K : Ks) (q : Qs) : (quArr u K q)[0]? = some (.slice K.A K.n K.n) := by cases u <;> rfl
theorem qu_set0 (u : Bool) (K : Ks) (q : Qs) (A : Option Addr) (n : Nat) : (quArr u K q).setIfInBounds 0 (.slice A n n) = quArr u { K with A := A, n := n } q := by cases u <;> rfl
attribute [-go_sem] Instr.build
attribute [local go_sem] fr_sz fr_ne fr_lt qu_ne qu_lt qu_get0 qu_set0 setCell_drewN setCell_drew alloc_drewN

set_option maxHeartbeats 1000000 in
theorem newq_any (u : Bool) (W0 w : World) (F : Fs) (n k : Nat) (hB : Below W0.heap.size W0 w) (hn : n ≤ 4096) (hs : ∀ i, i < n → ∀ c, c < 26 → w.cell? ⟨k, i * 26 + c, none⟩ = some (frCell F i c))
    (first next last : Int) (taken started : Bool) (empty : ByteArray) (out eo : Int) :
    Calls Try.prog 11 #[.slice (some ⟨k, 0, none⟩) n n, .int .i64 first, .int .u32 next, .int .u32 last, .bool taken, .bool started, .string empty, .int .i64 out, .int .i64 eo] w fun e w' => e = .returned (.pointer (some ⟨w.heap.size, 0, none⟩)) ∧
      Inv u W0 ⟨some ⟨w.heap.size + 1, 0, none⟩, n, last, taken, empty⟩ F w.heap.size (w.heap.size + 1) ⟨first, next, started, out, eo⟩ w' := by
  have hb := build63 u first next last taken started empty out eo
  have hm := make61 F n hn
  go_enter Try.func11, Try.ntmps11
  go_wp2
  clear hb hm
  go_loopw [20] (fun x wr => ∃ i : Nat, i ≤ n ∧ x = .int .i64 i ∧ blk wr w.heap.size 63 (quArr u ⟨some ⟨w.heap.size + 1, 0, none⟩, n, last, taken, empty⟩ ⟨first, next, started, out, eo⟩) ∧ blk wr (w.heap.size + 1) 65 (rowArr (partF F i) n) ∧ Below W0.heap.size W0 wr ∧ (∀ i, i < n → ∀ c, c < 26 → wr.cell? ⟨k, i * 26 + c, none⟩ = some (frCell F i c))) (fun x _ => n - (intOf x).toNat)
  case atStart =>
    refine ⟨0, by omega, rfl, ?_, ?_, (hB.alloc hB.size _).alloc (by rw [show (w.alloc _).heap.size = w.heap.size + 1 from Array.size_push _]; have := hB.size; omega) _, fun i hi c hc => cell_alloc (cell_alloc (hs i hi c hc) _) _⟩
    · have := (blk.new w (quArr u ⟨some ⟨w.heap.size + 1, 0, none⟩, n, last, taken, empty⟩ ⟨first, next, started, out, eo⟩) 63).alloc (.cells (rowArr (partF F 0) n) 65)
      exact this
    · have := blk.new (w.alloc (.cells (quArr u ⟨some ⟨w.heap.size + 1, 0, none⟩, n, last, taken, empty⟩ ⟨first, next, started, out, eo⟩) 63)) (rowArr (partF F 0) n) 65
      rw [show (w.alloc (.cells (quArr u ⟨some ⟨w.heap.size + 1, 0, none⟩, n, last, taken, empty⟩ ⟨first, next, started, out, eo⟩) 63)).heap.size = w.heap.size + 1 from Array.size_push _] at this
      exact this
  case round =>
    obtain ⟨i, hi, rfl, hg, hh, hBr, hsr⟩ := hrel
    by_cases hlt : i < n
    · have i0 : (0 : Int) ≤ (i : Int) := by omega
      have i1 : (i : Int) < n := by omega
      have kl : k < w.heap.size := cell_lt (hs i hlt 0 (by omega))
      have c0 : wr.cell? ⟨w.heap.size, 0, none⟩ = some (.slice (some ⟨w.heap.size + 1, 0, none⟩) n n) := by rw [hg.cell]; exact qu_get0 ..
      have s0 : wr.cell? ⟨k, i * 26, none⟩ = some (.int .u32 (F.ts i)) := hsr i hlt 0 (by omega)
      have s1 : wr.cell? ⟨k, i * 26 + 1, none⟩ = some (.int .u8 (F.st i)) := hsr i hlt 1 (by omega)
      have s2 : wr.cell? ⟨k, i * 26 + 2, none⟩ = some (.int .u8 (F.sz i)) := hsr i hlt 2 (by omega)
      have s3 : wr.cell? ⟨k, i * 26 + 3, none⟩ = some (.string (F.ty i)) := hsr i hlt 3 (by omega)
      have s4 : wr.rangeAt k (i * 26 + 4) (ocArr u (F.oc i)).toList := range_oct u (hsr i hlt)
      have hst : (storeCells ⟨w.heap.size + 1, i * 26, none⟩ (frArr u F i).toList 0).run Try.prog wr.drew = .ok () (wr.setRow (w.heap.size + 1) (rowArr (partF F (i + 1)) n)).drew := store_cells u F n i 65 (w.heap.size + 1) wr.drew hlt hh
      have hk1 : ∀ c o, (wr.setRow (w.heap.size + 1) c).cell? ⟨k, o, none⟩ = wr.cell? ⟨k, o, none⟩ := fun c o => cell_setRow (by omega)
      have hk2 : ∀ c o, (wr.setRow (w.heap.size + 1) c).cell? ⟨w.heap.size, o, none⟩ = wr.cell? ⟨w.heap.size, o, none⟩ := fun c o => cell_setRow (by omega)
      have hk3 : ∀ c o cs, (wr.setRow (w.heap.size + 1) c).rangeAt k o cs = wr.rangeAt k o cs := fun c o cs => by unfold World.rangeAt; simp only [hk1]
      have hu37 : Try.prog.underlying 37 = some (.array 22 5) := Try.underlying37
      have hi37 : (Try.prog.info? 37).map (·.size) = some (ocArr u (F.oc i)).toList.length := by rw [Array.length_toList, ocArr_size]; exact info37
      have hbd := build65 u F i
      have hbd' : ∀ W, (Instr.build 65 #[(0, .int .u32 (F.ts i)), (1, .int .u8 (F.st i)), (2, .int .u8 (F.sz i)), (3, .string (F.ty i)), (4, .agg (ocArr u (F.oc i)).toList.toArray)]).run Try.prog W = .ok (.agg (frArr u F i)) W := hbd
      have HG : Hid (blk wr w.heap.size 63 (quArr u ⟨some ⟨w.heap.size + 1, 0, none⟩, n, last, taken, empty⟩ ⟨first, next, started, out, eo⟩) ∧ blk wr (w.heap.size + 1) 65 (rowArr (partF F i) n) ∧ Below W0.heap.size W0 wr ∧ (∀ i, i < n → ∀ c, c < 26 → wr.cell? ⟨k, i * 26 + c, none⟩ = some (frCell F i c))) := ⟨hg, hh, hBr, hsr⟩
      have HS : Hid (∀ i, i < n → ∀ c, c < 26 → w.cell? ⟨k, i * 26 + c, none⟩ = some (frCell F i c)) := hs
      clear hg hh hBr hsr hs
      go_wp2
      go_region_held3 (fun W => W.cell? ⟨w.heap.size, 0, none⟩ = some (.slice (some ⟨w.heap.size + 1, 0, none⟩) n n) ∧ W.cell? ⟨k, i * 26, none⟩ = some (.int .u32 (F.ts i)) ∧ W.cell? ⟨k, i * 26 + 1, none⟩ = some (.int .u8 (F.st i)) ∧ W.cell? ⟨k, i * 26 + 2, none⟩ = some (.int .u8 (F.sz i)) ∧ W.cell? ⟨k, i * 26 + 3, none⟩ = some (.string (F.ty i)) ∧ W.rangeAt k (i * 26 + 4) (ocArr u (F.oc i)).toList) (refine ⟨?_, ?_, ?_, ?_, ?_, ?_⟩ <;> go_simp) (fail)
      all_goals go_wp2
      obtain ⟨hg, hh, hBr, hsr⟩ := HG
      go_roundw
      case rel =>
        refine ⟨i + 1, by omega, by go_num, ?_, ?_, ?_, ?_⟩
        · exact (hg.other (rowArr (partF F (i + 1)) n) (by omega)).drewN 1
        · exact (hh.row (rowArr (partF F (i + 1)) n)).drewN 1
        · exact below_drewN (below_setRow hBr (by have := hB.size; omega) (rowArr (partF F (i + 1)) n)) 1
        · intro j hj c hc
          exact (hk1 (rowArr (partF F (i + 1)) n) (j * 26 + c)).trans (hsr j hj c hc)
      case measure => simp [intOf]; omega
    · have hin : i = n := by omega
      subst hin
      rw [row_all] at hh
      have HG : Hid (Inv u W0 ⟨some ⟨w.heap.size + 1, 0, none⟩, i, last, taken, empty⟩ F w.heap.size (w.heap.size + 1) ⟨first, next, started, out, eo⟩ wr) :=
        ⟨hBr, hB.size, hg, by omega, rfl, hn, fun j hj c hc => by rw [hh.cell]; exact rowArr_at F i j c hj hc⟩
      clear hg hh hBr hsr hs
      go_wp2
      go_ret
      exact ⟨rfl, HG⟩
end Go.Proofs.Qxb6605266a.Pop
