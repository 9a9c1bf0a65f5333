import Derived.Test.Qxb6605266aNeq
namespace Go.Proofs.Qxb6605266a.Seq
open Go Go.RowKit
set_option linter.unusedVariables false
set_option maxRecDepth 100000

attribute [local go_sem] st_sz store_new store_new_drew store_new_drew1 setCell_drewN alloc_drewN st_ne st_lt nil0 st_get0 st_get1 st_get2 st_get3 st_get4 st_get5 st_get6 st_get7 st_set0 st_set1 st_set2 st_set3 st_set4 st_set5 st_set6 st_set7

set_option maxHeartbeats 4000000 in
theorem copy_fresh (u : Bool) (seq ts hi re : Int) (ba cy rc ep rp : Int) (f : Nat → Int) (h : Nat → Bool) (w : World) (q0 : 0 ≤ seq) (q1 : seq ≤ 65535) (p0 : 0 ≤ hi) (p1 : hi ≤ 65535) (D : Int) (HD : Hid ((seq - hi) % 65536 = D)) (d0 : 0 ≤ D) (d1 : D < 65536) (s1 s2 : St) (HT : Hid (takeR ⟨hi, re, false, ba, cy, rc, ep, rp, f, h⟩ seq ts = (true, true, s1))) (HA : Hid (Acc u s1 s2 seq ts true)) (khi : s1.highest = seq) :
    Calls Try.prog 4 #[.int .u16 seq, .int .u32 ts, .int .u16 hi, .int .u32 re, .bool false, .int .u16 ba, .int .u32 cy, .int .i64 rc, .int .i64 ep, .int .i64 rp, .agg (tsArr u f), .agg (tkArr u h)] w fun e w' => e = .returned (.bool true) ∧ Grown w w' := by
  have hz := zero27 u
  have hj : (seq % 128).toNat < 128 := by omega
  have aT := fun t => st_getTs u t (seq % 128).toNat hj
  have aK := fun t => st_getTk u t (seq % 128).toNat hj
  have g24 := tsArr_get u f (seq % 128).toNat hj
  have g25 := tkArr_get u h (seq % 128).toNat hj
  have b24 : Hid (((w.alloc (.cells (tsArr u f) 24)).alloc (.cells (tkArr u h) 25)).heap[w.heap.size]? = some (.cells (tsArr u f) 24 (0, 0))) := (blk.new w (tsArr u f) 24).alloc _
  have b25 : Hid (((w.alloc (.cells (tsArr u f) 24)).alloc (.cells (tkArr u h) 25)).heap[w.heap.size + 1]? = some (.cells (tkArr u h) 25 (0, 0))) := by
    have := blk.new (w.alloc (.cells (tsArr u f) 24)) (tkArr u h) 25
    rw [size_alloc] at this
    exact this
  have b27 : Hid ((((w.alloc (.cells (tsArr u f) 24)).alloc (.cells (tkArr u h) 25)).alloc (.cells (stArr u ⟨hi, re, false, ba, cy, rc, ep, rp, f, h⟩) 27)).heap[w.heap.size + 1 + 1]? = some (.cells (stArr u ⟨hi, re, false, ba, cy, rc, ep, rp, f, h⟩) 27 (0, 0))) := by
    have := blk.new ((w.alloc (.cells (tsArr u f) 24)).alloc (.cells (tkArr u h) 25)) (stArr u ⟨hi, re, false, ba, cy, rc, ep, rp, f, h⟩) 27
    rw [size_alloc, size_alloc] at this
    exact this
  go_enter Try.func4, Try.ntmps4
  go_wp2_with (first
    | (refine wpList_load_row rfl 24 _ rfl w.heap.size rfl 24 (tsArr u f) (0, 0) _ ?_ Try.underlying24 rfl (i24 u f) ?_; exact b24.out)
    | (refine wpList_load_row rfl 25 _ rfl (w.heap.size + 1) rfl 25 (tkArr u h) (0, 0) _ ?_ Try.underlying25 rfl (i25 u h) ?_; exact b25.out)
    | refine wpList_build_run rfl 27 _ rfl #[(0, .int .u16 hi), (1, .int .u32 re), (2, .bool false), (3, .int .u16 ba), (4, .int .u32 cy), (5, .int .i64 rc), (6, .int .i64 ep), (7, .int .i64 rp), (8, .agg (tsArr u f)), (9, .agg (tkArr u h))] (by kernel_rfl) _ (build27 u hi re false ba cy rc ep rp f h _) ?_)
  refine (fwd_any _ _ _ q0 q1 p0 p1).mono ?_
  rintro e w' ⟨he, rfl⟩
  rw [HD.out] at he
  subst he
  go_upto_region 6 with fail
  go_cut [30] (fun c wc => c = .bool (h (seq % 128).toNat && (f (seq % 128).toNat != ts)) ∧ wc = ((w.alloc (.cells (tsArr u f) 24)).alloc (.cells (tkArr u h) 25)).alloc (.cells (stArr u ⟨hi, re, false, ba, cy, rc, ep, rp, f, h⟩) 27))
  case first =>
    by_cases t1 : h (seq % 128).toNat = true
    · go_wp2
      go_meet
      case rel => exact ⟨by rw [t1]; rfl, rfl⟩
    · have t1' : h (seq % 128).toNat = false := by simpa using t1
      clear t1
      go_wp2
      go_meet
      case rel => exact ⟨by rw [t1']; rfl, rfl⟩
  case rest =>
    obtain ⟨rfl, rfl⟩ := hcut
    have ktk := HA.out.tk
    have ktt := HA.out.tt
    have kre := HA.out.re
    go_wp2_with (first
      | (refine wpList_load_row rfl 27 _ rfl (w.heap.size + 1 + 1) rfl 27 (stArr u ⟨hi, re, false, ba, cy, rc, ep, rp, f, h⟩) (0, 0) _ ?_ Try.underlying27 rfl (i27 u _) ?_; exact b27.out))
    refine (new_ex u ⟨hi, re, false, ba, cy, rc, ep, rp, f, h⟩ _).mono ?_
    rintro e w1 ⟨g, rfl, h1⟩
    have gl : w.heap.size + 3 ≤ g := by have := h1.out.1; rw [size_alloc, size_alloc, size_alloc] at this; exact this
    have m1 : More w w1 := more_trans ⟨fun k T c hk => ((hk.alloc _).alloc _).alloc _, (((Grown.refl w).alloc _ _).alloc _ _).alloc _ _⟩ h1.out.2.2
    have k27 : blk w1 (w.heap.size + 1 + 1) 27 (stArr u ⟨hi, re, false, ba, cy, rc, ep, rp, f, h⟩) := h1.out.2.2.1 _ _ _ b27.out
    have HG : Hid (w.heap.size + 3 ≤ g) := gl
    have H1 : Hid (blk w1 g 58 (winArr u ⟨hi, re, false, ba, cy, rc, ep, rp, f, h⟩) ∧ Grown w w1 ∧ blk w1 (w.heap.size + 1 + 1) 27 (stArr u ⟨hi, re, false, ba, cy, rc, ep, rp, f, h⟩)) := ⟨h1.out.2.1, m1.2, k27⟩
    clear h1 gl m1 k27 b24 b25 b27 g24 g25
    go_wp2_with fail
    refine (take_ex u ⟨hi, re, false, ba, cy, rc, ep, rp, f, h⟩ seq ts g w1 H1.out.1 q0 q1 p0 p1).mono ?_
    rintro e w2 ⟨he, h2⟩
    rw [HT.out] at he h2
    subst he
    have H2 : Hid (blk w2 g 58 (winArr u s1) ∧ Grown w w2 ∧ blk w2 (w.heap.size + 1 + 1) 27 (stArr u ⟨hi, re, false, ba, cy, rc, ep, rp, f, h⟩)) := by
      obtain ⟨_, gr, k27⟩ := H1.out
      have gl := HG.out
      exact ⟨h2.out.1, h2.out.2.2 w (by omega) gr, h2.out.2.1 _ _ _ (by omega) k27⟩
    clear h2 H1
    go_wp2_with fail
    refine (state_ex u s1 g w2 H2.out.1).mono ?_
    rintro e w3 ⟨rfl, h3⟩
    have H3 : Hid (blk w3 g 58 (winArr u s1) ∧ Grown w w3 ∧ blk w3 (w.heap.size + 1 + 1) 27 (stArr u ⟨hi, re, false, ba, cy, rc, ep, rp, f, h⟩)) := by
      obtain ⟨kg, gr, k27⟩ := H2.out
      exact ⟨h3.out.1 _ _ _ kg, grown_trans gr h3.out.2, h3.out.1 _ _ _ k27⟩
    clear h3 H2
    go_wp2_with fail
    refine (take_ex u s1 seq ts g _ (H3.out.1.alloc _) q0 q1 HA.out.lo HA.out.hi).mono ?_
    rintro e w4 ⟨he, h4⟩
    rw [HA.out.t1] at he h4
    subst he
    have H4 : Hid (blk w4 g 58 (winArr u s2) ∧ Grown w w4 ∧ blk w4 w3.heap.size 27 (stArr u s1) ∧ w3.heap.size ≠ g) := by
      obtain ⟨kg, gr, _⟩ := H3.out
      have gl := HG.out
      have lt := kg.lt
      exact ⟨h4.out.1, h4.out.2.2 w (by omega) (gr.alloc _ _), h4.out.2.1 _ _ _ (by omega) (blk.new w3 _ 27), by omega⟩
    clear h4 H3 ktk ktt kre khi
    go_wp2_with fail
    refine (state_ex u s2 g w4 H4.out.1).mono ?_
    rintro e w5 ⟨rfl, h5⟩
    have H5 : Hid (blk w5 g 58 (winArr u s2) ∧ Grown w w5 ∧ blk w5 w3.heap.size 27 (stArr u s1)) := by
      obtain ⟨kg, gr, k3, _⟩ := H4.out
      exact ⟨h5.out.1 _ _ _ kg, grown_trans gr h5.out.2, h5.out.1 _ _ _ k3⟩
    clear h5 H4
    have hl5 : w3.heap.size < w5.heap.size := H5.out.2.2.lt
    have hl6 : w3.heap.size ≤ w5.heap.size := by omega
    have hl7 : w3.heap.size < w5.heap.size + 1 := by omega
    have c5 : ∀ i, w5.cell? ⟨w3.heap.size, i, none⟩ = (stArr u s1)[i]? := H5.out.2.2.cell
    have b36 : Hid (∀ A, (w5.alloc A).heap[w3.heap.size]? = some (.cells (stArr u s1) 27 (0, 0))) := fun A => H5.out.2.2.alloc A
    have bA : Hid (∀ A, ((w5.alloc (.cells (stArr u s2) 27)).alloc A).heap[w5.heap.size]? = some (.cells (stArr u s2) 27 (0, 0))) := fun A => (blk.new w5 _ 27).alloc A
    have bW : Hid (∀ A, ((w5.alloc A).alloc (.cells (stArr u { s1 with recv := wrap64 (s1.recv + 1) }) 27)).heap[w5.heap.size + 1]? = some (.cells (stArr u s2) 27 (0, 0))) := fun A => by
      have := blk.new (w5.alloc A) (stArr u { s1 with recv := wrap64 (s1.recv + 1) }) 27
      rw [size_alloc] at this
      rw [HA.out.e2]
      exact this
    go_wp2_with (first
      | (refine wpList_load_row rfl 27 _ rfl w3.heap.size rfl 27 (stArr u s1) (0, 0) _ ?_ Try.underlying27 rfl (i27 u _) ?_; exact b36.out _)
      | (refine wpList_load_want rfl 27 _ rfl w5.heap.size rfl 27 (stArr u s2) (0, 0) _ ?_ Try.underlying27 rfl (i27 u _) ?_; exact bA.out _)
      | (refine wpList_load_want rfl 27 _ rfl (w5.heap.size + 1) rfl 27 (stArr u s2) (0, 0) _ ?_ Try.underlying27 rfl (i27 u _) ?_; exact bW.out _)
      | refine wpList_neq27 rfl _ _ _ rfl u s2 rfl rfl ?_)
    refine (take_ex u s2 seq ((ts + 1) % 4294967296) g _ ((H5.out.1.alloc _).alloc _) q0 q1 HA.out.lo2 HA.out.hi2).mono ?_
    rintro e w6 ⟨he, h6⟩
    rw [HA.out.t2] at he h6
    subst he
    have H6 : Hid (blk w6 g 58 (winArr u s2) ∧ Grown w w6 ∧ blk w6 w5.heap.size 27 (stArr u s2)) := by
      obtain ⟨kg, gr, _⟩ := H5.out
      have gl := HG.out
      have lt := kg.lt
      exact ⟨h6.out.1, h6.out.2.2 w (by omega) ((gr.alloc _ _).alloc _ _), h6.out.2.1 _ _ _ (by omega) ((blk.new w5 _ 27).alloc _)⟩
    clear h6 bA bW b36 c5
    go_wp2_with fail
    refine (state_ex u s2 g w6 H6.out.1).mono ?_
    rintro e w7 ⟨rfl, h7⟩
    have H7 : Hid (Grown w w7 ∧ blk w7 w5.heap.size 27 (stArr u s2)) := by
      obtain ⟨_, gr, k5⟩ := H6.out
      exact ⟨grown_trans gr h7.out.2, h7.out.1 _ _ _ k5⟩
    have bX : Hid ((w7.alloc (.cells (stArr u s2) 27)).heap[w7.heap.size]? = some (.cells (stArr u s2) 27 (0, 0))) := blk.new w7 _ 27
    have bY : Hid ((w7.alloc (.cells (stArr u s2) 27)).heap[w5.heap.size]? = some (.cells (stArr u s2) 27 (0, 0))) := H7.out.2.alloc _
    go_wp2_with (first
      | (refine wpList_load_want rfl 27 _ rfl w7.heap.size rfl 27 (stArr u s2) (0, 0) _ ?_ Try.underlying27 rfl (i27 u _) ?_; exact bX.out)
      | (refine wpList_load_want rfl 27 _ rfl w5.heap.size rfl 27 (stArr u s2) (0, 0) _ ?_ Try.underlying27 rfl (i27 u _) ?_; exact bY.out)
      | refine wpList_eql27 rfl _ _ _ rfl u s2 rfl rfl ?_)
    go_ret
    exact ⟨rfl, H7.out.1.alloc _ _⟩

set_option maxHeartbeats 4000000 in
theorem copy_order (u : Bool) (seq ts hi re : Int) (ba cy rc ep rp : Int) (f : Nat → Int) (h : Nat → Bool) (w : World) (q0 : 0 ≤ seq) (q1 : seq ≤ 65535) (p0 : 0 ≤ hi) (p1 : hi ≤ 65535) (D : Int) (HD : Hid ((seq - hi) % 65536 = D)) (d0 : 0 ≤ D) (d1 : D < 65536) (s1 s2 : St) (HT : Hid (takeR ⟨hi, re, true, ba, cy, rc, ep, rp, f, h⟩ seq ts = (true, true, s1))) (HA : Hid (Acc u s1 s2 seq ts true)) (khi : s1.highest = seq) (o1 : 1 ≤ D) (o2 : D < 3000) (e1 : (D == 0) = false) (n3 : ¬ 65436 < D) :
    Calls Try.prog 4 #[.int .u16 seq, .int .u32 ts, .int .u16 hi, .int .u32 re, .bool true, .int .u16 ba, .int .u32 cy, .int .i64 rc, .int .i64 ep, .int .i64 rp, .agg (tsArr u f), .agg (tkArr u h)] w fun e w' => e = .returned (.bool true) ∧ Grown w w' := by
  have hz := zero27 u
  have hj : (seq % 128).toNat < 128 := by omega
  have aT := fun t => st_getTs u t (seq % 128).toNat hj
  have aK := fun t => st_getTk u t (seq % 128).toNat hj
  have g24 := tsArr_get u f (seq % 128).toNat hj
  have g25 := tkArr_get u h (seq % 128).toNat hj
  have b24 : Hid (((w.alloc (.cells (tsArr u f) 24)).alloc (.cells (tkArr u h) 25)).heap[w.heap.size]? = some (.cells (tsArr u f) 24 (0, 0))) := (blk.new w (tsArr u f) 24).alloc _
  have b25 : Hid (((w.alloc (.cells (tsArr u f) 24)).alloc (.cells (tkArr u h) 25)).heap[w.heap.size + 1]? = some (.cells (tkArr u h) 25 (0, 0))) := by
    have := blk.new (w.alloc (.cells (tsArr u f) 24)) (tkArr u h) 25
    rw [size_alloc] at this
    exact this
  have b27 : Hid ((((w.alloc (.cells (tsArr u f) 24)).alloc (.cells (tkArr u h) 25)).alloc (.cells (stArr u ⟨hi, re, true, ba, cy, rc, ep, rp, f, h⟩) 27)).heap[w.heap.size + 1 + 1]? = some (.cells (stArr u ⟨hi, re, true, ba, cy, rc, ep, rp, f, h⟩) 27 (0, 0))) := by
    have := blk.new ((w.alloc (.cells (tsArr u f) 24)).alloc (.cells (tkArr u h) 25)) (stArr u ⟨hi, re, true, ba, cy, rc, ep, rp, f, h⟩) 27
    rw [size_alloc, size_alloc] at this
    exact this
  go_enter Try.func4, Try.ntmps4
  go_wp2_with (first
    | (refine wpList_load_row rfl 24 _ rfl w.heap.size rfl 24 (tsArr u f) (0, 0) _ ?_ Try.underlying24 rfl (i24 u f) ?_; exact b24.out)
    | (refine wpList_load_row rfl 25 _ rfl (w.heap.size + 1) rfl 25 (tkArr u h) (0, 0) _ ?_ Try.underlying25 rfl (i25 u h) ?_; exact b25.out)
    | refine wpList_build_run rfl 27 _ rfl #[(0, .int .u16 hi), (1, .int .u32 re), (2, .bool true), (3, .int .u16 ba), (4, .int .u32 cy), (5, .int .i64 rc), (6, .int .i64 ep), (7, .int .i64 rp), (8, .agg (tsArr u f)), (9, .agg (tkArr u h))] (by kernel_rfl) _ (build27 u hi re true ba cy rc ep rp f h _) ?_)
  refine (fwd_any _ _ _ q0 q1 p0 p1).mono ?_
  rintro e w' ⟨he, rfl⟩
  rw [HD.out] at he
  subst he
  go_upto_region 6 with fail
  go_cut [30] (fun c wc => c = .bool (h (seq % 128).toNat && (f (seq % 128).toNat != ts)) ∧ wc = ((w.alloc (.cells (tsArr u f) 24)).alloc (.cells (tkArr u h) 25)).alloc (.cells (stArr u ⟨hi, re, true, ba, cy, rc, ep, rp, f, h⟩) 27))
  case first =>
    by_cases t1 : h (seq % 128).toNat = true
    · go_wp2
      go_meet
      case rel => exact ⟨by rw [t1]; rfl, rfl⟩
    · have t1' : h (seq % 128).toNat = false := by simpa using t1
      clear t1
      go_wp2
      go_meet
      case rel => exact ⟨by rw [t1']; rfl, rfl⟩
  case rest =>
    obtain ⟨rfl, rfl⟩ := hcut
    have ktk := HA.out.tk
    have ktt := HA.out.tt
    have kre := HA.out.re
    go_wp2_with (first
      | (refine wpList_load_row rfl 27 _ rfl (w.heap.size + 1 + 1) rfl 27 (stArr u ⟨hi, re, true, ba, cy, rc, ep, rp, f, h⟩) (0, 0) _ ?_ Try.underlying27 rfl (i27 u _) ?_; exact b27.out))
    refine (new_ex u ⟨hi, re, true, ba, cy, rc, ep, rp, f, h⟩ _).mono ?_
    rintro e w1 ⟨g, rfl, h1⟩
    have gl : w.heap.size + 3 ≤ g := by have := h1.out.1; rw [size_alloc, size_alloc, size_alloc] at this; exact this
    have m1 : More w w1 := more_trans ⟨fun k T c hk => ((hk.alloc _).alloc _).alloc _, (((Grown.refl w).alloc _ _).alloc _ _).alloc _ _⟩ h1.out.2.2
    have k27 : blk w1 (w.heap.size + 1 + 1) 27 (stArr u ⟨hi, re, true, ba, cy, rc, ep, rp, f, h⟩) := h1.out.2.2.1 _ _ _ b27.out
    have HG : Hid (w.heap.size + 3 ≤ g) := gl
    have H1 : Hid (blk w1 g 58 (winArr u ⟨hi, re, true, ba, cy, rc, ep, rp, f, h⟩) ∧ Grown w w1 ∧ blk w1 (w.heap.size + 1 + 1) 27 (stArr u ⟨hi, re, true, ba, cy, rc, ep, rp, f, h⟩)) := ⟨h1.out.2.1, m1.2, k27⟩
    clear h1 gl m1 k27 b24 b25 b27 g24 g25
    go_wp2_with fail
    refine (take_ex u ⟨hi, re, true, ba, cy, rc, ep, rp, f, h⟩ seq ts g w1 H1.out.1 q0 q1 p0 p1).mono ?_
    rintro e w2 ⟨he, h2⟩
    rw [HT.out] at he h2
    subst he
    have H2 : Hid (blk w2 g 58 (winArr u s1) ∧ Grown w w2 ∧ blk w2 (w.heap.size + 1 + 1) 27 (stArr u ⟨hi, re, true, ba, cy, rc, ep, rp, f, h⟩)) := by
      obtain ⟨_, gr, k27⟩ := H1.out
      have gl := HG.out
      exact ⟨h2.out.1, h2.out.2.2 w (by omega) gr, h2.out.2.1 _ _ _ (by omega) k27⟩
    clear h2 H1
    go_wp2_with fail
    refine (state_ex u s1 g w2 H2.out.1).mono ?_
    rintro e w3 ⟨rfl, h3⟩
    have H3 : Hid (blk w3 g 58 (winArr u s1) ∧ Grown w w3 ∧ blk w3 (w.heap.size + 1 + 1) 27 (stArr u ⟨hi, re, true, ba, cy, rc, ep, rp, f, h⟩)) := by
      obtain ⟨kg, gr, k27⟩ := H2.out
      exact ⟨h3.out.1 _ _ _ kg, grown_trans gr h3.out.2, h3.out.1 _ _ _ k27⟩
    clear h3 H2
    go_wp2_with fail
    refine (take_ex u s1 seq ts g _ (H3.out.1.alloc _) q0 q1 HA.out.lo HA.out.hi).mono ?_
    rintro e w4 ⟨he, h4⟩
    rw [HA.out.t1] at he h4
    subst he
    have H4 : Hid (blk w4 g 58 (winArr u s2) ∧ Grown w w4 ∧ blk w4 w3.heap.size 27 (stArr u s1) ∧ w3.heap.size ≠ g) := by
      obtain ⟨kg, gr, _⟩ := H3.out
      have gl := HG.out
      have lt := kg.lt
      exact ⟨h4.out.1, h4.out.2.2 w (by omega) (gr.alloc _ _), h4.out.2.1 _ _ _ (by omega) (blk.new w3 _ 27), by omega⟩
    clear h4 H3 ktk ktt kre khi
    go_wp2_with fail
    refine (state_ex u s2 g w4 H4.out.1).mono ?_
    rintro e w5 ⟨rfl, h5⟩
    have H5 : Hid (blk w5 g 58 (winArr u s2) ∧ Grown w w5 ∧ blk w5 w3.heap.size 27 (stArr u s1)) := by
      obtain ⟨kg, gr, k3, _⟩ := H4.out
      exact ⟨h5.out.1 _ _ _ kg, grown_trans gr h5.out.2, h5.out.1 _ _ _ k3⟩
    clear h5 H4
    have hl5 : w3.heap.size < w5.heap.size := H5.out.2.2.lt
    have hl6 : w3.heap.size ≤ w5.heap.size := by omega
    have hl7 : w3.heap.size < w5.heap.size + 1 := by omega
    have c5 : ∀ i, w5.cell? ⟨w3.heap.size, i, none⟩ = (stArr u s1)[i]? := H5.out.2.2.cell
    have b36 : Hid (∀ A, (w5.alloc A).heap[w3.heap.size]? = some (.cells (stArr u s1) 27 (0, 0))) := fun A => H5.out.2.2.alloc A
    have bA : Hid (∀ A, ((w5.alloc (.cells (stArr u s2) 27)).alloc A).heap[w5.heap.size]? = some (.cells (stArr u s2) 27 (0, 0))) := fun A => (blk.new w5 _ 27).alloc A
    have bW : Hid (∀ A, ((w5.alloc A).alloc (.cells (stArr u { s1 with recv := wrap64 (s1.recv + 1) }) 27)).heap[w5.heap.size + 1]? = some (.cells (stArr u s2) 27 (0, 0))) := fun A => by
      have := blk.new (w5.alloc A) (stArr u { s1 with recv := wrap64 (s1.recv + 1) }) 27
      rw [size_alloc] at this
      rw [HA.out.e2]
      exact this
    go_wp2_with (first
      | (refine wpList_load_row rfl 27 _ rfl w3.heap.size rfl 27 (stArr u s1) (0, 0) _ ?_ Try.underlying27 rfl (i27 u _) ?_; exact b36.out _)
      | (refine wpList_load_want rfl 27 _ rfl w5.heap.size rfl 27 (stArr u s2) (0, 0) _ ?_ Try.underlying27 rfl (i27 u _) ?_; exact bA.out _)
      | (refine wpList_load_want rfl 27 _ rfl (w5.heap.size + 1) rfl 27 (stArr u s2) (0, 0) _ ?_ Try.underlying27 rfl (i27 u _) ?_; exact bW.out _)
      | refine wpList_neq27 rfl _ _ _ rfl u s2 rfl rfl ?_)
    refine (take_ex u s2 seq ((ts + 1) % 4294967296) g _ ((H5.out.1.alloc _).alloc _) q0 q1 HA.out.lo2 HA.out.hi2).mono ?_
    rintro e w6 ⟨he, h6⟩
    rw [HA.out.t2] at he h6
    subst he
    have H6 : Hid (blk w6 g 58 (winArr u s2) ∧ Grown w w6 ∧ blk w6 w5.heap.size 27 (stArr u s2)) := by
      obtain ⟨kg, gr, _⟩ := H5.out
      have gl := HG.out
      have lt := kg.lt
      exact ⟨h6.out.1, h6.out.2.2 w (by omega) ((gr.alloc _ _).alloc _ _), h6.out.2.1 _ _ _ (by omega) ((blk.new w5 _ 27).alloc _)⟩
    clear h6 bA bW b36 c5
    go_wp2_with fail
    refine (state_ex u s2 g w6 H6.out.1).mono ?_
    rintro e w7 ⟨rfl, h7⟩
    have H7 : Hid (Grown w w7 ∧ blk w7 w5.heap.size 27 (stArr u s2)) := by
      obtain ⟨_, gr, k5⟩ := H6.out
      exact ⟨grown_trans gr h7.out.2, h7.out.1 _ _ _ k5⟩
    have bX : Hid ((w7.alloc (.cells (stArr u s2) 27)).heap[w7.heap.size]? = some (.cells (stArr u s2) 27 (0, 0))) := blk.new w7 _ 27
    have bY : Hid ((w7.alloc (.cells (stArr u s2) 27)).heap[w5.heap.size]? = some (.cells (stArr u s2) 27 (0, 0))) := H7.out.2.alloc _
    go_wp2_with (first
      | (refine wpList_load_want rfl 27 _ rfl w7.heap.size rfl 27 (stArr u s2) (0, 0) _ ?_ Try.underlying27 rfl (i27 u _) ?_; exact bX.out)
      | (refine wpList_load_want rfl 27 _ rfl w5.heap.size rfl 27 (stArr u s2) (0, 0) _ ?_ Try.underlying27 rfl (i27 u _) ?_; exact bY.out)
      | refine wpList_eql27 rfl _ _ _ rfl u s2 rfl rfl ?_)
    go_ret
    exact ⟨rfl, H7.out.1.alloc _ _⟩
end Go.Proofs.Qxb6605266a.Seq
