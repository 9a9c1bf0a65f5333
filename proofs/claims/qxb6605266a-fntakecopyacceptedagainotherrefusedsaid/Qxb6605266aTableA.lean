import Derived.Test.Qxb6605266aAgg
namespace Go.Proofs.Qxb6605266a.Seq
open Go Go.RowKit
set_option linter.unusedVariables false
set_option maxRecDepth 100000

attribute [local go_sem] st_sz store_new store_new_drew store_new_drew1 setCell_drewN alloc_drewN st_ne st_lt nil0 st_get0 st_get1 st_get2 st_get3 st_get4 st_get5 st_get6 st_get7 st_set0 st_set1 st_set2 st_set3 st_set4 st_set5 st_set6 st_set7

theorem size_alloc (w : World) (o : Obj) : (w.alloc o).heap.size = w.heap.size + 1 := Array.size_push _

/-- what was there is there; nothing old has turned -/
def More (w w' : World) : Prop := (∀ k T c, blk w k T c → blk w' k T c) ∧ Grown w w'
theorem more_trans {a b c : World} (h : More a b) (k : More b c) : More a c := ⟨fun i T cs x => k.1 i T cs (h.1 i T cs x), grown_trans h.2 k.2⟩
theorem new_ex (u : Bool) (s : St) (w : World) : Calls Try.prog 6 #[.agg (stArr u s)] w fun e w' => ∃ g, e = .returned (.pointer (some ⟨g, 0, none⟩)) ∧ Hid (w.heap.size ≤ g ∧ blk w' g 58 (winArr u s) ∧ More w w') :=
  (new_any u s w).mono fun e w' ⟨he, n, hw⟩ => by
    subst hw
    refine ⟨w.heap.size + 1, he, Nat.le_succ _, ?_, fun k T c hk => ((hk.alloc _).alloc _), ((Grown.refl w).alloc _ _).alloc _ _⟩
    have := blk.new (w.alloc (.cells (stArr u s) 27)) (winArr u s) 58
    rw [size_alloc] at this
    exact this
theorem state_ex (u : Bool) (s : St) (g : Nat) (w : World) (hg : blk w g 58 (winArr u s)) : Calls Try.prog 8 #[.pointer (some ⟨g, 0, none⟩)] w fun e w' => e = .returned (.agg (stArr u s)) ∧ Hid (More w w') :=
  (state_any u s g w hg).mono fun e w' ⟨he, hw⟩ => by
    subst hw
    exact ⟨he, fun k T c hk => ((hk.alloc _).alloc _), ((Grown.refl w).alloc _ _).alloc _ _⟩
theorem take_ex (u : Bool) (s : St) (seq ts : Int) (g : Nat) (w : World) (hg : blk w g 58 (winArr u s)) (q0 : 0 ≤ seq) (q1 : seq ≤ 65535) (p0 : 0 ≤ s.highest) (p1 : s.highest ≤ 65535) :
    Calls Try.prog 7 #[.pointer (some ⟨g, 0, none⟩), .int .u16 seq, .int .u32 ts] w fun e w' => e = .returned (.tuple #[.bool (takeR s seq ts).1, .bool (takeR s seq ts).2.1]) ∧
      Hid (blk w' g 58 (winArr u (takeR s seq ts).2.2) ∧ (∀ k T c, k ≠ g → blk w k T c → blk w' k T c) ∧ (∀ W, W.heap.size ≤ g → Grown W w → Grown W w')) :=
  (zztake_any u s seq ts g w hg q0 q1 p0 p1).mono fun e w' ⟨he, hw⟩ => by
    subst hw
    exact ⟨he, hg.row _, fun k T c ne hk => hk.other _ ne, fun W hW hG => grown_setRow hG hW hg _⟩


set_option maxHeartbeats 4000000 in
theorem table_fresh (u : Bool) (seq ts hi re : Int) (ba cy rc ep rp : Int) (f : Nat → Int) (h : Nat → Bool) (w : World) (q0 : 0 ≤ seq) (q1 : seq ≤ 65535) (p0 : 0 ≤ hi) (p1 : hi ≤ 65535) :
    Calls Try.prog 3 #[.int .u16 seq, .int .u32 ts, .int .u16 hi, .int .u32 re, .bool false, .int .u16 ba, .int .u32 cy, .int .i64 rc, .int .i64 ep, .int .i64 rp, .agg (tsArr u f), .agg (tkArr u h)] w fun e w' => e = .returned (.bool true) ∧ Grown w w' := by
  have hz := zero27 u
  have hj : (seq % 128).toNat < 128 := by omega
  have aT := fun t => st_getTs u t (seq % 128).toNat hj
  have aK := fun t => st_getTk u t (seq % 128).toNat hj
  have sT := fun t x => st_setTs u t (seq % 128).toNat x hj
  have sK := fun t x => st_setTk u t (seq % 128).toNat x hj
  have b24 : Hid (((w.alloc (.cells (tsArr u f) 24)).alloc (.cells (tkArr u h) 25)).heap[w.heap.size]? = some (.cells (tsArr u f) 24 (0, 0))) := (blk.new w (tsArr u f) 24).alloc _
  have b25 : Hid (((w.alloc (.cells (tsArr u f) 24)).alloc (.cells (tkArr u h) 25)).heap[w.heap.size + 1]? = some (.cells (tkArr u h) 25 (0, 0))) := by
    have := blk.new (w.alloc (.cells (tsArr u f) 24)) (tkArr u h) 25
    rw [size_alloc] at this
    exact this
  have b27 : Hid ((((w.alloc (.cells (tsArr u f) 24)).alloc (.cells (tkArr u h) 25)).alloc (.cells (stArr u ⟨hi, re, false, ba, cy, rc, ep, rp, f, h⟩) 27)).heap[w.heap.size + 1 + 1]? = some (.cells (stArr u ⟨hi, re, false, ba, cy, rc, ep, rp, f, h⟩) 27 (0, 0))) := by
    have := blk.new ((w.alloc (.cells (tsArr u f) 24)).alloc (.cells (tkArr u h) 25)) (stArr u ⟨hi, re, false, ba, cy, rc, ep, rp, f, h⟩) 27
    rw [size_alloc, size_alloc] at this
    exact this
  go_enter Try.func3, Try.ntmps3
  go_wp2_with (first
    | (refine wpList_load_row rfl 24 _ rfl w.heap.size rfl 24 (tsArr u f) (0, 0) _ ?_ Try.underlying24 rfl (i24 u f) ?_; exact b24.out)
    | (refine wpList_load_row rfl 25 _ rfl (w.heap.size + 1) rfl 25 (tkArr u h) (0, 0) _ ?_ Try.underlying25 rfl (i25 u h) ?_; exact b25.out)
    | (refine wpList_load_row rfl 27 _ rfl (w.heap.size + 1 + 1) rfl 27 (stArr u ⟨hi, re, false, ba, cy, rc, ep, rp, f, h⟩) (0, 0) _ ?_ Try.underlying27 rfl (i27 u _) ?_; exact b27.out)
    | refine wpList_build_run rfl 27 _ rfl #[(0, .int .u16 hi), (1, .int .u32 re), (2, .bool false), (3, .int .u16 ba), (4, .int .u32 cy), (5, .int .i64 rc), (6, .int .i64 ep), (7, .int .i64 rp), (8, .agg (tsArr u f)), (9, .agg (tkArr u h))] (by kernel_rfl) _ (build27 u hi re false ba cy rc ep rp f h _) ?_)
  refine (new_ex u ⟨hi, re, false, ba, cy, rc, ep, rp, f, h⟩ _).mono ?_
  rintro e w1 ⟨g, rfl, h1⟩
  have gl : w.heap.size + 3 ≤ g := by have := h1.out.1; rw [size_alloc, size_alloc, size_alloc] at this; exact this
  have m1 : More w w1 := more_trans ⟨fun k T c hk => ((hk.alloc _).alloc _).alloc _, (((Grown.refl w).alloc _ _).alloc _ _).alloc _ _⟩ h1.out.2.2
  have k24 : blk w1 w.heap.size 24 (tsArr u f) := h1.out.2.2.1 _ _ _ (blk.alloc b24.out _)
  have k25 : blk w1 (w.heap.size + 1) 25 (tkArr u h) := h1.out.2.2.1 _ _ _ (blk.alloc b25.out _)
  have k27 : blk w1 (w.heap.size + 1 + 1) 27 (stArr u ⟨hi, re, false, ba, cy, rc, ep, rp, f, h⟩) := h1.out.2.2.1 _ _ _ b27.out
  have H1 : Hid (w.heap.size + 3 ≤ g ∧ blk w1 g 58 (winArr u ⟨hi, re, false, ba, cy, rc, ep, rp, f, h⟩) ∧ Grown w w1 ∧ blk w1 w.heap.size 24 (tsArr u f) ∧ blk w1 (w.heap.size + 1) 25 (tkArr u h) ∧ blk w1 (w.heap.size + 1 + 1) 27 (stArr u ⟨hi, re, false, ba, cy, rc, ep, rp, f, h⟩)) := ⟨gl, h1.out.2.1, m1.2, k24, k25, k27⟩
  clear h1 gl m1 k24 k25 k27 b24 b25 b27
  go_wp2_with fail
  refine (take_ex u ⟨hi, re, false, ba, cy, rc, ep, rp, f, h⟩ seq ts g w1 H1.out.2.1 q0 q1 p0 p1).mono ?_
  rintro e w2 ⟨rfl, h2⟩
  generalize hT : takeR ⟨hi, re, false, ba, cy, rc, ep, rp, f, h⟩ seq ts = T at h2 ⊢
  have HT : Hid (takeR ⟨hi, re, false, ba, cy, rc, ep, rp, f, h⟩ seq ts = T) := hT
  clear hT
  have H2 : Hid (blk w2 g 58 (winArr u T.2.2) ∧ Grown w w2 ∧ blk w2 w.heap.size 24 (tsArr u f) ∧ blk w2 (w.heap.size + 1) 25 (tkArr u h) ∧ blk w2 (w.heap.size + 1 + 1) 27 (stArr u ⟨hi, re, false, ba, cy, rc, ep, rp, f, h⟩)) := by
    obtain ⟨gl, _, gr, k24, k25, k27⟩ := H1.out
    exact ⟨h2.out.1, h2.out.2.2 w (by omega) gr, h2.out.2.1 _ _ _ (by omega) k24, h2.out.2.1 _ _ _ (by omega) k25, h2.out.2.1 _ _ _ (by omega) k27⟩
  clear h2 H1
  go_wp2_with fail
  refine (state_ex u T.2.2 g w2 H2.out.1).mono ?_
  rintro e w3 ⟨rfl, h3⟩
  have H3 : Hid (Grown w w3 ∧ blk w3 w.heap.size 24 (tsArr u f) ∧ blk w3 (w.heap.size + 1) 25 (tkArr u h) ∧ blk w3 (w.heap.size + 1 + 1) 27 (stArr u ⟨hi, re, false, ba, cy, rc, ep, rp, f, h⟩)) := by
    obtain ⟨_, gr, k24, k25, k27⟩ := H2.out
    exact ⟨grown_trans gr h3.out.2, h3.out.1 _ _ _ k24, h3.out.1 _ _ _ k25, h3.out.1 _ _ _ k27⟩
  clear h3 H2
  have b27 : Hid ((w3.alloc (.cells (stArr u T.2.2) 27)).heap[w.heap.size + 1 + 1]? = some (.cells (stArr u ⟨hi, re, false, ba, cy, rc, ep, rp, f, h⟩) 27 (0, 0))) := H3.out.2.2.2.alloc _
  obtain rfl : T = (true, true, fresh ⟨hi, re, false, ba, cy, rc, ep, rp, f, h⟩ seq ts (seq % 128).toNat) := by rw [← HT.out]; exact if_pos rfl
  have bA : Hid (∀ A, ((w3.alloc (.cells (stArr u (fresh ⟨hi, re, false, ba, cy, rc, ep, rp, f, h⟩ seq ts (seq % 128).toNat)) 27)).alloc A).heap[w3.heap.size]? = some (.cells (stArr u (fresh ⟨hi, re, false, ba, cy, rc, ep, rp, f, h⟩ seq ts (seq % 128).toNat)) 27 (0, 0))) := fun A => (blk.new w3 _ 27).alloc A
  have bW : Hid (∀ A, ((w3.alloc A).alloc (.cells (stArr u (fresh ⟨hi, re, false, ba, cy, rc, ep, rp, f, h⟩ seq ts (seq % 128).toNat)) 27)).heap[w3.heap.size + 1]? = some (.cells (stArr u (fresh ⟨hi, re, false, ba, cy, rc, ep, rp, f, h⟩ seq ts (seq % 128).toNat)) 27 (0, 0))) := fun A => by
    have := blk.new (w3.alloc A) (stArr u (fresh ⟨hi, re, false, ba, cy, rc, ep, rp, f, h⟩ seq ts (seq % 128).toNat)) 27
    rw [size_alloc] at this
    exact this
  go_wp2_with (first
      | (go_at_call 9; refine (fwd_any _ _ _ q0 q1 p0 p1).mono ?_; rintro e w' ⟨rfl, rfl⟩)
      | (refine wpList_load_row rfl 27 _ rfl (w.heap.size + 1 + 1) rfl 27 (stArr u ⟨hi, re, false, ba, cy, rc, ep, rp, f, h⟩) (0, 0) _ ?_ Try.underlying27 rfl (i27 u _) ?_; exact b27.out)
      | (refine wpList_load_want rfl 27 _ rfl w3.heap.size rfl 27 (stArr u (fresh ⟨hi, re, false, ba, cy, rc, ep, rp, f, h⟩ seq ts (seq % 128).toNat)) (0, 0) _ ?_ Try.underlying27 rfl (i27 u _) ?_; exact bA.out _)
      | (refine wpList_load_want rfl 27 _ rfl (w3.heap.size + 1) rfl 27 (stArr u (fresh ⟨hi, re, false, ba, cy, rc, ep, rp, f, h⟩ seq ts (seq % 128).toNat)) (0, 0) _ ?_ Try.underlying27 rfl (i27 u _) ?_; exact bW.out _)
      | refine wpList_eql27 rfl _ _ _ rfl u (fresh ⟨hi, re, false, ba, cy, rc, ep, rp, f, h⟩ seq ts (seq % 128).toNat) rfl rfl ?_)
  go_ret
  exact ⟨rfl, grown_trans H3.out.1 (((Grown.refl w3).alloc _ _).alloc _ _)⟩
end Go.Proofs.Qxb6605266a.Seq
