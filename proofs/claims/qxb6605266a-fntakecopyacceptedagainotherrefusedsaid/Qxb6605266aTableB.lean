import Derived.Test.Qxb6605266aTableA
namespace Go.Proofs.Qxb6605266a.Seq
open Go Go.RowKit
set_option linter.unusedVariables false
set_option maxRecDepth 100000

attribute [local go_sem] st_sz store_new store_new_drew store_new_drew1 setCell_drewN alloc_drewN st_ne st_lt nil0 st_get0 st_get1 st_get2 st_get3 st_get4 st_get5 st_get6 st_get7 st_set0 st_set1 st_set2 st_set3 st_set4 st_set5 st_set6 st_set7

theorem takeR_on (s : St) (seq ts D : Int) (hs : s.started = true) (hD : (seq - s.highest) % 65536 = D) : takeR s seq ts =
    if 1 ≤ D ∧ D < 3000 then (true, true, fin (clr (if seq < s.highest then turn s else s) seq D 0) seq ts (seq % 128).toNat)
    else if D = 0 ∨ 65436 < D then (if s.tk (seq % 128).toNat = true ∧ s.ts (seq % 128).toNat ≠ ts then (false, false, noRe s) else (seq == s.highest, true, again s ts (seq % 128).toNat))
    else (false, false, s) := by
  unfold takeR dd
  rw [if_neg (by simp [hs]), hD]

/-- the table's loop: the first k slots are done -/
def tab (s : St) (seq ts D : Int) (k : Nat) : St :=
  { s with ts := fun j => if j < k then (if back seq j = 0 then ts else if back seq j < D then 0 else s.ts j) else s.ts j, tk := fun j => if j < k then (if back seq j = 0 then true else if back seq j < D then false else s.tk j) else s.tk j }
theorem upd_tab {α : Type} (f g : Nat → α) (k : Nat) (x : α) (hx : x = g k) : upd (fun j => if j < k then g j else f j) k x = fun j => if j < k + 1 then g j else f j := by
  funext j
  show (if j = k then x else if j < k then g j else f j) = if j < k + 1 then g j else f j
  by_cases e : j = k
  · subst e; rw [if_pos rfl, if_pos (by omega), hx]
  · rw [if_neg e]
    by_cases h : j < k
    · rw [if_pos h, if_pos (by omega)]
    · rw [if_neg h, if_neg (by omega)]
theorem tab_zero (s : St) (seq ts D : Int) : tab s seq ts D 0 = s := by
  have e1 : (tab s seq ts D 0).ts = s.ts := by funext j; show (if j < 0 then (if back seq j = 0 then ts else if back seq j < D then 0 else s.ts j) else s.ts j) = s.ts j; rw [if_neg (Nat.not_lt_zero j)]
  have e2 : (tab s seq ts D 0).tk = s.tk := by funext j; show (if j < 0 then (if back seq j = 0 then true else if back seq j < D then false else s.tk j) else s.tk j) = s.tk j; rw [if_neg (Nat.not_lt_zero j)]
  show { s with ts := (tab s seq ts D 0).ts, tk := (tab s seq ts D 0).tk } = s
  rw [e1, e2]
theorem tab_step (s : St) (seq ts D : Int) (k : Nat) (x : Int) (b : Bool) (hx : x = if back seq k = 0 then ts else if back seq k < D then 0 else s.ts k) (hb : b = if back seq k = 0 then true else if back seq k < D then false else s.tk k) :
    { tab s seq ts D k with ts := upd (tab s seq ts D k).ts k x, tk := upd (tab s seq ts D k).tk k b } = tab s seq ts D (k + 1) := by
  have e1 : upd (tab s seq ts D k).ts k x = (tab s seq ts D (k + 1)).ts := upd_tab s.ts (fun j => if back seq j = 0 then ts else if back seq j < D then 0 else s.ts j) k x hx
  have e2 : upd (tab s seq ts D k).tk k b = (tab s seq ts D (k + 1)).tk := upd_tab s.tk (fun j => if back seq j = 0 then true else if back seq j < D then false else s.tk j) k b hb
  rw [e1, e2]
  rfl
theorem upd_same {α : Type} (f : Nat → α) (k : Nat) (x : α) (h : x = f k) : upd f k x = f := by
  funext j
  show (if j = k then x else f j) = f j
  by_cases e : j = k
  · rw [if_pos e, h, e]
  · rw [if_neg e]
theorem tab_stay (s : St) (seq ts D : Int) (k : Nat) (h0 : back seq k ≠ 0) (h1 : ¬ back seq k < D) : tab s seq ts D k = tab s seq ts D (k + 1) := by
  have h := tab_step s seq ts D k (s.ts k) (s.tk k) (by rw [if_neg h0, if_neg h1]) (by rw [if_neg h0, if_neg h1])
  rw [upd_same (tab s seq ts D k).ts k (s.ts k) (by show _ = if k < k then _ else _; rw [if_neg (by omega)]), upd_same (tab s seq ts D k).tk k (s.tk k) (by show _ = if k < k then _ else _; rw [if_neg (by omega)])] at h
  exact h
theorem bk_eq (seq : Int) (k : Nat) (q0 : 0 ≤ seq) (h : k < 128) : (seq % 128 - k + 128) % 128 = back seq k := by unfold back; omega
theorem slot_iff (seq : Int) (j : Nat) (q0 : 0 ≤ seq) (h : j < 128) : j = (seq % 128).toNat ↔ back seq j = 0 := by unfold back; omega
theorem back0 (seq : Int) (j : Nat) : 0 ≤ back seq j := by unfold back; omega
theorem tab_all (u : Bool) (s : St) (seq ts D : Int) (q0 : 0 ≤ seq) :
    stArr u { tab s seq ts D 128 with highest := seq, restart := 65536, recv := wrap64 (s.recv + 1) } = stArr u (fin (clr s seq D 0) seq ts (seq % 128).toNat) := by
  refine stArr_congr u (fun i h => ?_) (fun j h => ?_) (fun j h => ?_)
  · rcases scal h with rfl | rfl | rfl | rfl | rfl | rfl | rfl | rfl <;> rfl
  · show (if j < 128 then (if back seq j = 0 then ts else if back seq j < D then 0 else s.ts j) else s.ts j) = if j = (seq % 128).toNat then ts else if j < 128 ∧ 0 < back seq j ∧ back seq j < D then 0 else s.ts j
    have hs := slot_iff seq j q0 h
    have hb := back0 seq j
    rw [if_pos h]
    by_cases e : back seq j = 0
    · rw [if_pos e, if_pos (hs.2 e)]
    · rw [if_neg e, if_neg (fun x => e (hs.1 x))]
      by_cases d : back seq j < D
      · rw [if_pos d, if_pos ⟨h, by omega, d⟩]
      · rw [if_neg d, if_neg (fun x => d x.2.2)]
  · show (if j < 128 then (if back seq j = 0 then true else if back seq j < D then false else s.tk j) else s.tk j) = if j = (seq % 128).toNat then true else if j < 128 ∧ 0 < back seq j ∧ back seq j < D then false else s.tk j
    have hs := slot_iff seq j q0 h
    have hb := back0 seq j
    rw [if_pos h]
    by_cases e : back seq j = 0
    · rw [if_pos e, if_pos (hs.2 e)]
    · rw [if_neg e, if_neg (fun x => e (hs.1 x))]
      by_cases d : back seq j < D
      · rw [if_pos d, if_pos ⟨h, by omega, d⟩]
      · rw [if_neg d, if_neg (fun x => d x.2.2)]

set_option maxHeartbeats 4000000 in
theorem table_on (u : Bool) (seq ts hi re : Int) (ba cy rc ep rp : Int) (f : Nat → Int) (h : Nat → Bool) (w : World) (q0 : 0 ≤ seq) (q1 : seq ≤ 65535) (p0 : 0 ≤ hi) (p1 : hi ≤ 65535) :
    Calls Try.prog 3 #[.int .u16 seq, .int .u32 ts, .int .u16 hi, .int .u32 re, .bool true, .int .u16 ba, .int .u32 cy, .int .i64 rc, .int .i64 ep, .int .i64 rp, .agg (tsArr u f), .agg (tkArr u h)] w fun e w' => e = .returned (.bool true) ∧ Grown w w' := by
  have hz := zero27 u
  have hj : (seq % 128).toNat < 128 := by omega
  have aT := fun t => st_getTs u t (seq % 128).toNat hj
  have aK := fun t => st_getTk u t (seq % 128).toNat hj
  have sT := fun t x => st_setTs u t (seq % 128).toNat x hj
  have sK := fun t x => st_setTk u t (seq % 128).toNat x hj
  have b24 : Hid (((w.alloc (.cells (tsArr u f) 24)).alloc (.cells (tkArr u h) 25)).heap[w.heap.size]? = some (.cells (tsArr u f) 24 (0, 0))) := (blk.new w (tsArr u f) 24).alloc _
  have b25 : Hid (((w.alloc (.cells (tsArr u f) 24)).alloc (.cells (tkArr u h) 25)).heap[w.heap.size + 1]? = some (.cells (tkArr u h) 25 (0, 0))) := by
    have := blk.new (w.alloc (.cells (tsArr u f) 24)) (tkArr u h) 25
    rw [size_alloc] at this
    exact this
  have b27 : Hid ((((w.alloc (.cells (tsArr u f) 24)).alloc (.cells (tkArr u h) 25)).alloc (.cells (stArr u ⟨hi, re, true, ba, cy, rc, ep, rp, f, h⟩) 27)).heap[w.heap.size + 1 + 1]? = some (.cells (stArr u ⟨hi, re, true, ba, cy, rc, ep, rp, f, h⟩) 27 (0, 0))) := by
    have := blk.new ((w.alloc (.cells (tsArr u f) 24)).alloc (.cells (tkArr u h) 25)) (stArr u ⟨hi, re, true, ba, cy, rc, ep, rp, f, h⟩) 27
    rw [size_alloc, size_alloc] at this
    exact this
  go_enter Try.func3, Try.ntmps3
  go_wp2_with (first
    | (refine wpList_load_row rfl 24 _ rfl w.heap.size rfl 24 (tsArr u f) (0, 0) _ ?_ Try.underlying24 rfl (i24 u f) ?_; exact b24.out)
    | (refine wpList_load_row rfl 25 _ rfl (w.heap.size + 1) rfl 25 (tkArr u h) (0, 0) _ ?_ Try.underlying25 rfl (i25 u h) ?_; exact b25.out)
    | (refine wpList_load_row rfl 27 _ rfl (w.heap.size + 1 + 1) rfl 27 (stArr u ⟨hi, re, true, ba, cy, rc, ep, rp, f, h⟩) (0, 0) _ ?_ Try.underlying27 rfl (i27 u _) ?_; exact b27.out)
    | refine wpList_build_run rfl 27 _ rfl #[(0, .int .u16 hi), (1, .int .u32 re), (2, .bool true), (3, .int .u16 ba), (4, .int .u32 cy), (5, .int .i64 rc), (6, .int .i64 ep), (7, .int .i64 rp), (8, .agg (tsArr u f)), (9, .agg (tkArr u h))] (by kernel_rfl) _ (build27 u hi re true ba cy rc ep rp f h _) ?_)
  refine (new_ex u ⟨hi, re, true, ba, cy, rc, ep, rp, f, h⟩ _).mono ?_
  rintro e w1 ⟨g, rfl, h1⟩
  have gl : w.heap.size + 3 ≤ g := by have := h1.out.1; rw [size_alloc, size_alloc, size_alloc] at this; exact this
  have m1 : More w w1 := more_trans ⟨fun k T c hk => ((hk.alloc _).alloc _).alloc _, (((Grown.refl w).alloc _ _).alloc _ _).alloc _ _⟩ h1.out.2.2
  have k24 : blk w1 w.heap.size 24 (tsArr u f) := h1.out.2.2.1 _ _ _ (blk.alloc b24.out _)
  have k25 : blk w1 (w.heap.size + 1) 25 (tkArr u h) := h1.out.2.2.1 _ _ _ (blk.alloc b25.out _)
  have k27 : blk w1 (w.heap.size + 1 + 1) 27 (stArr u ⟨hi, re, true, ba, cy, rc, ep, rp, f, h⟩) := h1.out.2.2.1 _ _ _ b27.out
  have H1 : Hid (w.heap.size + 3 ≤ g ∧ blk w1 g 58 (winArr u ⟨hi, re, true, ba, cy, rc, ep, rp, f, h⟩) ∧ Grown w w1 ∧ blk w1 w.heap.size 24 (tsArr u f) ∧ blk w1 (w.heap.size + 1) 25 (tkArr u h) ∧ blk w1 (w.heap.size + 1 + 1) 27 (stArr u ⟨hi, re, true, ba, cy, rc, ep, rp, f, h⟩)) := ⟨gl, h1.out.2.1, m1.2, k24, k25, k27⟩
  clear h1 gl m1 k24 k25 k27 b24 b25 b27
  go_wp2_with fail
  refine (take_ex u ⟨hi, re, true, ba, cy, rc, ep, rp, f, h⟩ seq ts g w1 H1.out.2.1 q0 q1 p0 p1).mono ?_
  rintro e w2 ⟨rfl, h2⟩
  generalize hT : takeR ⟨hi, re, true, ba, cy, rc, ep, rp, f, h⟩ seq ts = T at h2 ⊢
  have HT : Hid (takeR ⟨hi, re, true, ba, cy, rc, ep, rp, f, h⟩ seq ts = T) := hT
  clear hT
  have H2 : Hid (blk w2 g 58 (winArr u T.2.2) ∧ Grown w w2 ∧ blk w2 w.heap.size 24 (tsArr u f) ∧ blk w2 (w.heap.size + 1) 25 (tkArr u h) ∧ blk w2 (w.heap.size + 1 + 1) 27 (stArr u ⟨hi, re, true, ba, cy, rc, ep, rp, f, h⟩)) := by
    obtain ⟨gl, _, gr, k24, k25, k27⟩ := H1.out
    exact ⟨h2.out.1, h2.out.2.2 w (by omega) gr, h2.out.2.1 _ _ _ (by omega) k24, h2.out.2.1 _ _ _ (by omega) k25, h2.out.2.1 _ _ _ (by omega) k27⟩
  clear h2 H1
  go_wp2_with fail
  refine (state_ex u T.2.2 g w2 H2.out.1).mono ?_
  rintro e w3 ⟨rfl, h3⟩
  have H3 : Hid (Grown w w3 ∧ blk w3 w.heap.size 24 (tsArr u f) ∧ blk w3 (w.heap.size + 1) 25 (tkArr u h) ∧ blk w3 (w.heap.size + 1 + 1) 27 (stArr u ⟨hi, re, true, ba, cy, rc, ep, rp, f, h⟩)) := by
    obtain ⟨_, gr, k24, k25, k27⟩ := H2.out
    exact ⟨grown_trans gr h3.out.2, h3.out.1 _ _ _ k24, h3.out.1 _ _ _ k25, h3.out.1 _ _ _ k27⟩
  clear h3 H2
  have b27 : Hid ((w3.alloc (.cells (stArr u T.2.2) 27)).heap[w.heap.size + 1 + 1]? = some (.cells (stArr u ⟨hi, re, true, ba, cy, rc, ep, rp, f, h⟩) 27 (0, 0))) := H3.out.2.2.2.alloc _
  obtain ⟨D, hD⟩ : ∃ D, (seq - hi) % 65536 = D := ⟨_, rfl⟩
  have HD : Hid ((seq - hi) % 65536 = D) := hD
  clear hD
  have HR : Hid (T = _) := HT.out.symm.trans (takeR_on ⟨hi, re, true, ba, cy, rc, ep, rp, f, h⟩ seq ts D rfl HD.out)
  have hsz : w.heap.size + 1 + 1 < w3.heap.size := H3.out.2.2.2.lt
  have hsz0 : w.heap.size < w3.heap.size := by omega
  have hsz1 : w.heap.size + 1 < w3.heap.size := by omega
  have hsz2 : w.heap.size ≤ w3.heap.size := by omega
  have hsz3 : w.heap.size + 1 ≤ w3.heap.size := by omega
  have hsz4 : w.heap.size < w3.heap.size + 1 := by omega
  have hsz5 : w.heap.size + 1 < w3.heap.size + 1 := by omega
  have c24 : ∀ i, w3.cell? ⟨w.heap.size, i, none⟩ = (tsArr u f)[i]? := H3.out.2.1.cell
  have c25 : ∀ i, w3.cell? ⟨w.heap.size + 1, i, none⟩ = (tkArr u h)[i]? := H3.out.2.2.1.cell
  have g24 := tsArr_get u f (seq % 128).toNat hj
  have g25 := tkArr_get u h (seq % 128).toNat hj
  have d0 : 0 ≤ D := by have := HD.out; omega
  have d1 : D < 65536 := by have := HD.out; omega
  by_cases ho : 1 ≤ D ∧ D < 3000
  · obtain ⟨o1, o2⟩ := id ho
    by_cases hw : seq < hi
    · have hc : 65535 < hi + D := by have := HD.out; omega
      obtain rfl : T = (true, true, fin (clr (turn ⟨hi, re, true, ba, cy, rc, ep, rp, f, h⟩) seq D 0) seq ts (seq % 128).toNat) := by rw [HR.out, if_pos ho]; rw [show (if seq < (⟨hi, re, true, ba, cy, rc, ep, rp, f, h⟩ : St).highest then turn ⟨hi, re, true, ba, cy, rc, ep, rp, f, h⟩ else ⟨hi, re, true, ba, cy, rc, ep, rp, f, h⟩) = (turn ⟨hi, re, true, ba, cy, rc, ep, rp, f, h⟩) from if_pos hw]
      have bA : Hid (∀ A, ((w3.alloc (.cells (stArr u (fin (clr (turn ⟨hi, re, true, ba, cy, rc, ep, rp, f, h⟩) seq D 0) seq ts (seq % 128).toNat)) 27)).alloc A).heap[w3.heap.size]? = some (.cells (stArr u (fin (clr (turn ⟨hi, re, true, ba, cy, rc, ep, rp, f, h⟩) seq D 0) seq ts (seq % 128).toNat)) 27 (0, 0))) := fun A => (blk.new w3 _ 27).alloc A
      have bW : Hid (∀ A, ((w3.alloc A).alloc (.cells (stArr u { tab (turn ⟨hi, re, true, ba, cy, rc, ep, rp, f, h⟩) seq ts D 128 with highest := seq, restart := 65536, recv := wrap64 (rc + 1) }) 27)).heap[w3.heap.size + 1]? = some (.cells (stArr u (fin (clr (turn ⟨hi, re, true, ba, cy, rc, ep, rp, f, h⟩) seq D 0) seq ts (seq % 128).toNat)) 27 (0, 0))) := fun A => by
        have := blk.new (w3.alloc A) (stArr u (fin (clr (turn ⟨hi, re, true, ba, cy, rc, ep, rp, f, h⟩) seq D 0) seq ts (seq % 128).toNat)) 27
        rw [size_alloc, ← tab_all u (turn ⟨hi, re, true, ba, cy, rc, ep, rp, f, h⟩) seq ts D q0] at this
        rw [← tab_all u (turn ⟨hi, re, true, ba, cy, rc, ep, rp, f, h⟩) seq ts D q0]
        exact this
      generalize hF : fin (clr (turn ⟨hi, re, true, ba, cy, rc, ep, rp, f, h⟩) seq D 0) seq ts (seq % 128).toNat = F at *
      clear hF
      go_wp2_with (first
        | (go_at_call 9; refine (fwd_any _ _ _ q0 q1 p0 p1).mono ?_; rintro e w' ⟨he, rfl⟩; rw [HD.out] at he; subst he)
        | (refine wpList_load_row rfl 27 _ rfl (w.heap.size + 1 + 1) rfl 27 (stArr u ⟨hi, re, true, ba, cy, rc, ep, rp, f, h⟩) (0, 0) _ ?_ Try.underlying27 rfl (i27 u _) ?_; exact b27.out))
      go_loopw [35] (fun i wr => ∃ k : Nat, k ≤ 128 ∧ i = .int .i64 k ∧ wr = (w3.alloc (.cells (stArr u F) 27)).alloc (.cells (stArr u (tab (turn ⟨hi, re, true, ba, cy, rc, ep, rp, f, h⟩) seq ts D k)) 27)) (fun i _ => 128 - (intOf i).toNat)
      case atStart => exact ⟨0, by omega, rfl, by rw [tab_zero]; try rfl⟩
      case round =>
        obtain ⟨k, hk, rfl, rfl⟩ := hrel
        by_cases hlt : k < 128
        · have i0 : (0 : Int) ≤ (k : Int) := by omega
          have i1 : (k : Int) < 128 := by omega
          have aTk := fun t => st_getTs u t k hlt
          have aKk := fun t => st_getTk u t k hlt
          have sTk := fun t x => st_setTs u t k x hlt
          have sKk := fun t x => st_setTk u t k x hlt
          clear aT aK sT sK c24 c25 g24 g25
          have hbk := bk_eq seq k q0 hlt
          by_cases e0 : back seq k = 0
          · have HS : Hid ({ tab (turn ⟨hi, re, true, ba, cy, rc, ep, rp, f, h⟩) seq ts D k with ts := upd (tab (turn ⟨hi, re, true, ba, cy, rc, ep, rp, f, h⟩) seq ts D k).ts k ts, tk := upd (tab (turn ⟨hi, re, true, ba, cy, rc, ep, rp, f, h⟩) seq ts D k).tk k true } = tab (turn ⟨hi, re, true, ba, cy, rc, ep, rp, f, h⟩) seq ts D (k + 1)) := tab_step _ seq ts D k ts true (by rw [if_pos e0]) (by rw [if_pos e0])
            have e1 : (seq % 128 - k + 128) % 128 = 0 := by rw [hbk, e0]
            clear hbk e0
            go_wp2
            go_roundw
            case rel => exact ⟨k + 1, by omega, by go_num, by rw [← HS.out]⟩
            case measure => simp [intOf]; omega
          · have n0 : ((seq % 128 - k + 128) % 128 == 0) = false := by rw [hbk]; simpa using e0
            by_cases eD : back seq k < D
            · have HS : Hid ({ tab (turn ⟨hi, re, true, ba, cy, rc, ep, rp, f, h⟩) seq ts D k with ts := upd (tab (turn ⟨hi, re, true, ba, cy, rc, ep, rp, f, h⟩) seq ts D k).ts k 0, tk := upd (tab (turn ⟨hi, re, true, ba, cy, rc, ep, rp, f, h⟩) seq ts D k).tk k false } = tab (turn ⟨hi, re, true, ba, cy, rc, ep, rp, f, h⟩) seq ts D (k + 1)) := tab_step _ seq ts D k 0 false (by rw [if_neg e0, if_pos eD]) (by rw [if_neg e0, if_pos eD])
              have e1 : (seq % 128 - k + 128) % 128 < D := by rw [hbk]; exact eD
              clear hbk e0 eD
              go_wp2
              go_roundw
              case rel => exact ⟨k + 1, by omega, by go_num, by rw [← HS.out]⟩
              case measure => simp [intOf]; omega
            · have HS : Hid (tab (turn ⟨hi, re, true, ba, cy, rc, ep, rp, f, h⟩) seq ts D k = tab (turn ⟨hi, re, true, ba, cy, rc, ep, rp, f, h⟩) seq ts D (k + 1)) := tab_stay _ seq ts D k e0 eD
              have e1 : ¬ (seq % 128 - k + 128) % 128 < D := by rw [hbk]; exact eD
              clear hbk e0 eD
              go_wp2
              go_roundw
              case rel => exact ⟨k + 1, by omega, by go_num, by rw [← HS.out]⟩
              case measure => simp [intOf]; omega
        · have hk2 : k = 128 := by omega
          subst hk2
          go_wp2_with (first
            | (refine wpList_load_want rfl 27 _ rfl w3.heap.size rfl 27 (stArr u F) (0, 0) _ ?_ Try.underlying27 rfl (i27 u _) ?_; exact bA.out _)
            | (refine wpList_load_want rfl 27 _ rfl (w3.heap.size + 1) rfl 27 (stArr u F) (0, 0) _ ?_ Try.underlying27 rfl (i27 u _) ?_; exact bW.out _)
            | refine wpList_eql27 rfl _ _ _ rfl u F rfl rfl ?_)
          go_ret
          exact ⟨rfl, grown_trans H3.out.1 (((Grown.refl w3).alloc _ _).alloc _ _)⟩
    · have hc : ¬ 65535 < hi + D := by have := HD.out; omega
      obtain rfl : T = (true, true, fin (clr ⟨hi, re, true, ba, cy, rc, ep, rp, f, h⟩ seq D 0) seq ts (seq % 128).toNat) := by rw [HR.out, if_pos ho]; rw [show (if seq < (⟨hi, re, true, ba, cy, rc, ep, rp, f, h⟩ : St).highest then turn ⟨hi, re, true, ba, cy, rc, ep, rp, f, h⟩ else ⟨hi, re, true, ba, cy, rc, ep, rp, f, h⟩) = ⟨hi, re, true, ba, cy, rc, ep, rp, f, h⟩ from if_neg hw]
      have bA : Hid (∀ A, ((w3.alloc (.cells (stArr u (fin (clr ⟨hi, re, true, ba, cy, rc, ep, rp, f, h⟩ seq D 0) seq ts (seq % 128).toNat)) 27)).alloc A).heap[w3.heap.size]? = some (.cells (stArr u (fin (clr ⟨hi, re, true, ba, cy, rc, ep, rp, f, h⟩ seq D 0) seq ts (seq % 128).toNat)) 27 (0, 0))) := fun A => (blk.new w3 _ 27).alloc A
      have bW : Hid (∀ A, ((w3.alloc A).alloc (.cells (stArr u { tab ⟨hi, re, true, ba, cy, rc, ep, rp, f, h⟩ seq ts D 128 with highest := seq, restart := 65536, recv := wrap64 (rc + 1) }) 27)).heap[w3.heap.size + 1]? = some (.cells (stArr u (fin (clr ⟨hi, re, true, ba, cy, rc, ep, rp, f, h⟩ seq D 0) seq ts (seq % 128).toNat)) 27 (0, 0))) := fun A => by
        have := blk.new (w3.alloc A) (stArr u (fin (clr ⟨hi, re, true, ba, cy, rc, ep, rp, f, h⟩ seq D 0) seq ts (seq % 128).toNat)) 27
        rw [size_alloc, ← tab_all u ⟨hi, re, true, ba, cy, rc, ep, rp, f, h⟩ seq ts D q0] at this
        rw [← tab_all u ⟨hi, re, true, ba, cy, rc, ep, rp, f, h⟩ seq ts D q0]
        exact this
      generalize hF : fin (clr ⟨hi, re, true, ba, cy, rc, ep, rp, f, h⟩ seq D 0) seq ts (seq % 128).toNat = F at *
      clear hF
      go_wp2_with (first
        | (go_at_call 9; refine (fwd_any _ _ _ q0 q1 p0 p1).mono ?_; rintro e w' ⟨he, rfl⟩; rw [HD.out] at he; subst he)
        | (refine wpList_load_row rfl 27 _ rfl (w.heap.size + 1 + 1) rfl 27 (stArr u ⟨hi, re, true, ba, cy, rc, ep, rp, f, h⟩) (0, 0) _ ?_ Try.underlying27 rfl (i27 u _) ?_; exact b27.out))
      go_loopw [35] (fun i wr => ∃ k : Nat, k ≤ 128 ∧ i = .int .i64 k ∧ wr = (w3.alloc (.cells (stArr u F) 27)).alloc (.cells (stArr u (tab ⟨hi, re, true, ba, cy, rc, ep, rp, f, h⟩ seq ts D k)) 27)) (fun i _ => 128 - (intOf i).toNat)
      case atStart => exact ⟨0, by omega, rfl, by rw [tab_zero]; try rfl⟩
      case round =>
        obtain ⟨k, hk, rfl, rfl⟩ := hrel
        by_cases hlt : k < 128
        · have i0 : (0 : Int) ≤ (k : Int) := by omega
          have i1 : (k : Int) < 128 := by omega
          have aTk := fun t => st_getTs u t k hlt
          have aKk := fun t => st_getTk u t k hlt
          have sTk := fun t x => st_setTs u t k x hlt
          have sKk := fun t x => st_setTk u t k x hlt
          clear aT aK sT sK c24 c25 g24 g25
          have hbk := bk_eq seq k q0 hlt
          by_cases e0 : back seq k = 0
          · have HS : Hid ({ tab ⟨hi, re, true, ba, cy, rc, ep, rp, f, h⟩ seq ts D k with ts := upd (tab ⟨hi, re, true, ba, cy, rc, ep, rp, f, h⟩ seq ts D k).ts k ts, tk := upd (tab ⟨hi, re, true, ba, cy, rc, ep, rp, f, h⟩ seq ts D k).tk k true } = tab ⟨hi, re, true, ba, cy, rc, ep, rp, f, h⟩ seq ts D (k + 1)) := tab_step _ seq ts D k ts true (by rw [if_pos e0]) (by rw [if_pos e0])
            have e1 : (seq % 128 - k + 128) % 128 = 0 := by rw [hbk, e0]
            clear hbk e0
            go_wp2
            go_roundw
            case rel => exact ⟨k + 1, by omega, by go_num, by rw [← HS.out]⟩
            case measure => simp [intOf]; omega
          · have n0 : ((seq % 128 - k + 128) % 128 == 0) = false := by rw [hbk]; simpa using e0
            by_cases eD : back seq k < D
            · have HS : Hid ({ tab ⟨hi, re, true, ba, cy, rc, ep, rp, f, h⟩ seq ts D k with ts := upd (tab ⟨hi, re, true, ba, cy, rc, ep, rp, f, h⟩ seq ts D k).ts k 0, tk := upd (tab ⟨hi, re, true, ba, cy, rc, ep, rp, f, h⟩ seq ts D k).tk k false } = tab ⟨hi, re, true, ba, cy, rc, ep, rp, f, h⟩ seq ts D (k + 1)) := tab_step _ seq ts D k 0 false (by rw [if_neg e0, if_pos eD]) (by rw [if_neg e0, if_pos eD])
              have e1 : (seq % 128 - k + 128) % 128 < D := by rw [hbk]; exact eD
              clear hbk e0 eD
              go_wp2
              go_roundw
              case rel => exact ⟨k + 1, by omega, by go_num, by rw [← HS.out]⟩
              case measure => simp [intOf]; omega
            · have HS : Hid (tab ⟨hi, re, true, ba, cy, rc, ep, rp, f, h⟩ seq ts D k = tab ⟨hi, re, true, ba, cy, rc, ep, rp, f, h⟩ seq ts D (k + 1)) := tab_stay _ seq ts D k e0 eD
              have e1 : ¬ (seq % 128 - k + 128) % 128 < D := by rw [hbk]; exact eD
              clear hbk e0 eD
              go_wp2
              go_roundw
              case rel => exact ⟨k + 1, by omega, by go_num, by rw [← HS.out]⟩
              case measure => simp [intOf]; omega
        · have hk2 : k = 128 := by omega
          subst hk2
          go_wp2_with (first
            | (refine wpList_load_want rfl 27 _ rfl w3.heap.size rfl 27 (stArr u F) (0, 0) _ ?_ Try.underlying27 rfl (i27 u _) ?_; exact bA.out _)
            | (refine wpList_load_want rfl 27 _ rfl (w3.heap.size + 1) rfl 27 (stArr u F) (0, 0) _ ?_ Try.underlying27 rfl (i27 u _) ?_; exact bW.out _)
            | refine wpList_eql27 rfl _ _ _ rfl u F rfl rfl ?_)
          go_ret
          exact ⟨rfl, grown_trans H3.out.1 (((Grown.refl w3).alloc _ _).alloc _ _)⟩
  · by_cases hb : D = 0 ∨ 65436 < D
    · by_cases hc : h (seq % 128).toNat = true ∧ f (seq % 128).toNat ≠ ts
      · obtain rfl : T = (false, false, noRe ⟨hi, re, true, ba, cy, rc, ep, rp, f, h⟩) := by rw [HR.out, if_neg ho, if_pos hb]; exact if_pos hc
        have t1 : h (seq % 128).toNat = true := hc.1
        have t2 : (f (seq % 128).toNat != ts) = true := by simpa using hc.2
        clear hc
        have bA : Hid (∀ A, ((w3.alloc (.cells (stArr u (noRe ⟨hi, re, true, ba, cy, rc, ep, rp, f, h⟩)) 27)).alloc A).heap[w3.heap.size]? = some (.cells (stArr u (noRe ⟨hi, re, true, ba, cy, rc, ep, rp, f, h⟩)) 27 (0, 0))) := fun A => (blk.new w3 _ 27).alloc A
        have bW : Hid (∀ A, ((w3.alloc A).alloc (.cells (stArr u (noRe ⟨hi, re, true, ba, cy, rc, ep, rp, f, h⟩)) 27)).heap[w3.heap.size + 1]? = some (.cells (stArr u (noRe ⟨hi, re, true, ba, cy, rc, ep, rp, f, h⟩)) 27 (0, 0))) := fun A => by
          have := blk.new (w3.alloc A) (stArr u (noRe ⟨hi, re, true, ba, cy, rc, ep, rp, f, h⟩)) 27
          rw [size_alloc] at this
          exact this
        by_cases hd : D = 0
        · have e1 : (D == 0) = true := by simpa using hd
          have n1 : ¬ 1 ≤ D := by omega
          clear hd hb ho
          go_wp2_with (first
            | (go_at_call 9; refine (fwd_any _ _ _ q0 q1 p0 p1).mono ?_; rintro e w' ⟨he, rfl⟩; rw [HD.out] at he; subst he)
            | (refine wpList_load_row rfl 27 _ rfl (w.heap.size + 1 + 1) rfl 27 (stArr u ⟨hi, re, true, ba, cy, rc, ep, rp, f, h⟩) (0, 0) _ ?_ Try.underlying27 rfl (i27 u _) ?_; exact b27.out)
            | (refine wpList_load_want rfl 27 _ rfl w3.heap.size rfl 27 (stArr u (noRe ⟨hi, re, true, ba, cy, rc, ep, rp, f, h⟩)) (0, 0) _ ?_ Try.underlying27 rfl (i27 u _) ?_; exact bA.out _)
            | (refine wpList_load_want rfl 27 _ rfl (w3.heap.size + 1) rfl 27 (stArr u (noRe ⟨hi, re, true, ba, cy, rc, ep, rp, f, h⟩)) (0, 0) _ ?_ Try.underlying27 rfl (i27 u _) ?_; exact bW.out _)
            | refine wpList_eql27 rfl _ _ _ rfl u (noRe ⟨hi, re, true, ba, cy, rc, ep, rp, f, h⟩) rfl rfl ?_)
          go_ret
          exact ⟨rfl, grown_trans H3.out.1 (((Grown.refl w3).alloc _ _).alloc _ _)⟩
        · have e1 : (D == 0) = false := by simpa using hd
          have n1 : 1 ≤ D := by omega
          have n2 : ¬ D < 3000 := by omega
          have n3 : 65436 < D := by omega
          clear hd hb ho
          go_wp2_with (first
            | (go_at_call 9; refine (fwd_any _ _ _ q0 q1 p0 p1).mono ?_; rintro e w' ⟨he, rfl⟩; rw [HD.out] at he; subst he)
            | (refine wpList_load_row rfl 27 _ rfl (w.heap.size + 1 + 1) rfl 27 (stArr u ⟨hi, re, true, ba, cy, rc, ep, rp, f, h⟩) (0, 0) _ ?_ Try.underlying27 rfl (i27 u _) ?_; exact b27.out)
            | (refine wpList_load_want rfl 27 _ rfl w3.heap.size rfl 27 (stArr u (noRe ⟨hi, re, true, ba, cy, rc, ep, rp, f, h⟩)) (0, 0) _ ?_ Try.underlying27 rfl (i27 u _) ?_; exact bA.out _)
            | (refine wpList_load_want rfl 27 _ rfl (w3.heap.size + 1) rfl 27 (stArr u (noRe ⟨hi, re, true, ba, cy, rc, ep, rp, f, h⟩)) (0, 0) _ ?_ Try.underlying27 rfl (i27 u _) ?_; exact bW.out _)
            | refine wpList_eql27 rfl _ _ _ rfl u (noRe ⟨hi, re, true, ba, cy, rc, ep, rp, f, h⟩) rfl rfl ?_)
          go_ret
          exact ⟨rfl, grown_trans H3.out.1 (((Grown.refl w3).alloc _ _).alloc _ _)⟩
      · obtain rfl : T = (seq == hi, true, again ⟨hi, re, true, ba, cy, rc, ep, rp, f, h⟩ ts (seq % 128).toNat) := by rw [HR.out, if_neg ho, if_pos hb]; exact if_neg hc
        have bA : Hid (∀ A, ((w3.alloc (.cells (stArr u (again ⟨hi, re, true, ba, cy, rc, ep, rp, f, h⟩ ts (seq % 128).toNat)) 27)).alloc A).heap[w3.heap.size]? = some (.cells (stArr u (again ⟨hi, re, true, ba, cy, rc, ep, rp, f, h⟩ ts (seq % 128).toNat)) 27 (0, 0))) := fun A => (blk.new w3 _ 27).alloc A
        have bW : Hid (∀ A, ((w3.alloc A).alloc (.cells (stArr u (again ⟨hi, re, true, ba, cy, rc, ep, rp, f, h⟩ ts (seq % 128).toNat)) 27)).heap[w3.heap.size + 1]? = some (.cells (stArr u (again ⟨hi, re, true, ba, cy, rc, ep, rp, f, h⟩ ts (seq % 128).toNat)) 27 (0, 0))) := fun A => by
          have := blk.new (w3.alloc A) (stArr u (again ⟨hi, re, true, ba, cy, rc, ep, rp, f, h⟩ ts (seq % 128).toNat)) 27
          rw [size_alloc] at this
          exact this
        by_cases hd : D = 0
        · have e1 : (D == 0) = true := by simpa using hd
          have n1 : ¬ 1 ≤ D := by omega
          have hq : (seq == hi) = true := by have := HD.out; simp; omega
          clear hd hb ho
          by_cases t1 : h (seq % 128).toNat = true
          · have t2 : (f (seq % 128).toNat != ts) = false := by
              have : f (seq % 128).toNat = ts := Classical.byContradiction fun n => hc ⟨t1, n⟩
              simpa using this
            clear hc
            go_wp2_with (first
              | (go_at_call 9; refine (fwd_any _ _ _ q0 q1 p0 p1).mono ?_; rintro e w' ⟨he, rfl⟩; rw [HD.out] at he; subst he)
              | (refine wpList_load_row rfl 27 _ rfl (w.heap.size + 1 + 1) rfl 27 (stArr u ⟨hi, re, true, ba, cy, rc, ep, rp, f, h⟩) (0, 0) _ ?_ Try.underlying27 rfl (i27 u _) ?_; exact b27.out)
              | (refine wpList_load_want rfl 27 _ rfl w3.heap.size rfl 27 (stArr u (again ⟨hi, re, true, ba, cy, rc, ep, rp, f, h⟩ ts (seq % 128).toNat)) (0, 0) _ ?_ Try.underlying27 rfl (i27 u _) ?_; exact bA.out _)
              | (refine wpList_load_want rfl 27 _ rfl (w3.heap.size + 1) rfl 27 (stArr u (again ⟨hi, re, true, ba, cy, rc, ep, rp, f, h⟩ ts (seq % 128).toNat)) (0, 0) _ ?_ Try.underlying27 rfl (i27 u _) ?_; exact bW.out _)
              | refine wpList_eql27 rfl _ _ _ rfl u (again ⟨hi, re, true, ba, cy, rc, ep, rp, f, h⟩ ts (seq % 128).toNat) rfl rfl ?_)
            go_ret
            exact ⟨rfl, grown_trans H3.out.1 (((Grown.refl w3).alloc _ _).alloc _ _)⟩
          · have t1' : h (seq % 128).toNat = false := by simpa using t1
            clear hc t1
            go_wp2_with (first
              | (go_at_call 9; refine (fwd_any _ _ _ q0 q1 p0 p1).mono ?_; rintro e w' ⟨he, rfl⟩; rw [HD.out] at he; subst he)
              | (refine wpList_load_row rfl 27 _ rfl (w.heap.size + 1 + 1) rfl 27 (stArr u ⟨hi, re, true, ba, cy, rc, ep, rp, f, h⟩) (0, 0) _ ?_ Try.underlying27 rfl (i27 u _) ?_; exact b27.out)
              | (refine wpList_load_want rfl 27 _ rfl w3.heap.size rfl 27 (stArr u (again ⟨hi, re, true, ba, cy, rc, ep, rp, f, h⟩ ts (seq % 128).toNat)) (0, 0) _ ?_ Try.underlying27 rfl (i27 u _) ?_; exact bA.out _)
              | (refine wpList_load_want rfl 27 _ rfl (w3.heap.size + 1) rfl 27 (stArr u (again ⟨hi, re, true, ba, cy, rc, ep, rp, f, h⟩ ts (seq % 128).toNat)) (0, 0) _ ?_ Try.underlying27 rfl (i27 u _) ?_; exact bW.out _)
              | refine wpList_eql27 rfl _ _ _ rfl u (again ⟨hi, re, true, ba, cy, rc, ep, rp, f, h⟩ ts (seq % 128).toNat) rfl rfl ?_)
            go_ret
            exact ⟨rfl, grown_trans H3.out.1 (((Grown.refl w3).alloc _ _).alloc _ _)⟩
        · have e1 : (D == 0) = false := by simpa using hd
          have n1 : 1 ≤ D := by omega
          have n2 : ¬ D < 3000 := by omega
          have n3 : 65436 < D := by omega
          have hq : (seq == hi) = false := by have := HD.out; simp; omega
          clear hd hb ho
          by_cases t1 : h (seq % 128).toNat = true
          · have t2 : (f (seq % 128).toNat != ts) = false := by
              have : f (seq % 128).toNat = ts := Classical.byContradiction fun n => hc ⟨t1, n⟩
              simpa using this
            clear hc
            go_wp2_with (first
              | (go_at_call 9; refine (fwd_any _ _ _ q0 q1 p0 p1).mono ?_; rintro e w' ⟨he, rfl⟩; rw [HD.out] at he; subst he)
              | (refine wpList_load_row rfl 27 _ rfl (w.heap.size + 1 + 1) rfl 27 (stArr u ⟨hi, re, true, ba, cy, rc, ep, rp, f, h⟩) (0, 0) _ ?_ Try.underlying27 rfl (i27 u _) ?_; exact b27.out)
              | (refine wpList_load_want rfl 27 _ rfl w3.heap.size rfl 27 (stArr u (again ⟨hi, re, true, ba, cy, rc, ep, rp, f, h⟩ ts (seq % 128).toNat)) (0, 0) _ ?_ Try.underlying27 rfl (i27 u _) ?_; exact bA.out _)
              | (refine wpList_load_want rfl 27 _ rfl (w3.heap.size + 1) rfl 27 (stArr u (again ⟨hi, re, true, ba, cy, rc, ep, rp, f, h⟩ ts (seq % 128).toNat)) (0, 0) _ ?_ Try.underlying27 rfl (i27 u _) ?_; exact bW.out _)
              | refine wpList_eql27 rfl _ _ _ rfl u (again ⟨hi, re, true, ba, cy, rc, ep, rp, f, h⟩ ts (seq % 128).toNat) rfl rfl ?_)
            go_ret
            exact ⟨rfl, grown_trans H3.out.1 (((Grown.refl w3).alloc _ _).alloc _ _)⟩
          · have t1' : h (seq % 128).toNat = false := by simpa using t1
            clear hc t1
            go_wp2_with (first
              | (go_at_call 9; refine (fwd_any _ _ _ q0 q1 p0 p1).mono ?_; rintro e w' ⟨he, rfl⟩; rw [HD.out] at he; subst he)
              | (refine wpList_load_row rfl 27 _ rfl (w.heap.size + 1 + 1) rfl 27 (stArr u ⟨hi, re, true, ba, cy, rc, ep, rp, f, h⟩) (0, 0) _ ?_ Try.underlying27 rfl (i27 u _) ?_; exact b27.out)
              | (refine wpList_load_want rfl 27 _ rfl w3.heap.size rfl 27 (stArr u (again ⟨hi, re, true, ba, cy, rc, ep, rp, f, h⟩ ts (seq % 128).toNat)) (0, 0) _ ?_ Try.underlying27 rfl (i27 u _) ?_; exact bA.out _)
              | (refine wpList_load_want rfl 27 _ rfl (w3.heap.size + 1) rfl 27 (stArr u (again ⟨hi, re, true, ba, cy, rc, ep, rp, f, h⟩ ts (seq % 128).toNat)) (0, 0) _ ?_ Try.underlying27 rfl (i27 u _) ?_; exact bW.out _)
              | refine wpList_eql27 rfl _ _ _ rfl u (again ⟨hi, re, true, ba, cy, rc, ep, rp, f, h⟩ ts (seq % 128).toNat) rfl rfl ?_)
            go_ret
            exact ⟨rfl, grown_trans H3.out.1 (((Grown.refl w3).alloc _ _).alloc _ _)⟩
    · obtain rfl : T = (false, false, ⟨hi, re, true, ba, cy, rc, ep, rp, f, h⟩) := by rw [HR.out, if_neg ho, if_neg hb]
      have bA : Hid (∀ A, ((w3.alloc (.cells (stArr u ⟨hi, re, true, ba, cy, rc, ep, rp, f, h⟩) 27)).alloc A).heap[w3.heap.size]? = some (.cells (stArr u ⟨hi, re, true, ba, cy, rc, ep, rp, f, h⟩) 27 (0, 0))) := fun A => (blk.new w3 _ 27).alloc A
      have bW : Hid (∀ A, ((w3.alloc A).alloc (.cells (stArr u ⟨hi, re, true, ba, cy, rc, ep, rp, f, h⟩) 27)).heap[w3.heap.size + 1]? = some (.cells (stArr u ⟨hi, re, true, ba, cy, rc, ep, rp, f, h⟩) 27 (0, 0))) := fun A => by
        have := blk.new (w3.alloc A) (stArr u ⟨hi, re, true, ba, cy, rc, ep, rp, f, h⟩) 27
        rw [size_alloc] at this
        exact this
      have e1 : (D == 0) = false := by simp; omega
      have n1 : 1 ≤ D := by omega
      have n2 : ¬ D < 3000 := by omega
      have n3 : ¬ 65436 < D := by omega
      clear hb ho
      go_wp2_with (first
        | (go_at_call 9; refine (fwd_any _ _ _ q0 q1 p0 p1).mono ?_; rintro e w' ⟨he, rfl⟩; rw [HD.out] at he; subst he)
        | (refine wpList_load_row rfl 27 _ rfl (w.heap.size + 1 + 1) rfl 27 (stArr u ⟨hi, re, true, ba, cy, rc, ep, rp, f, h⟩) (0, 0) _ ?_ Try.underlying27 rfl (i27 u _) ?_; exact b27.out)
        | (refine wpList_load_want rfl 27 _ rfl w3.heap.size rfl 27 (stArr u ⟨hi, re, true, ba, cy, rc, ep, rp, f, h⟩) (0, 0) _ ?_ Try.underlying27 rfl (i27 u _) ?_; exact bA.out _)
        | (refine wpList_load_want rfl 27 _ rfl (w3.heap.size + 1) rfl 27 (stArr u ⟨hi, re, true, ba, cy, rc, ep, rp, f, h⟩) (0, 0) _ ?_ Try.underlying27 rfl (i27 u _) ?_; exact bW.out _)
        | refine wpList_eql27 rfl _ _ _ rfl u ⟨hi, re, true, ba, cy, rc, ep, rp, f, h⟩ rfl rfl ?_)
      go_ret
      exact ⟨rfl, grown_trans H3.out.1 (((Grown.refl w3).alloc _ _).alloc _ _)⟩

theorem table_law (u : Bool) (seq ts hi re : Int) (b : Bool) (ba cy rc ep rp : Int) (f : Nat → Int) (h : Nat → Bool) (w : World) (q0 : 0 ≤ seq) (q1 : seq ≤ 65535) (p0 : 0 ≤ hi) (p1 : hi ≤ 65535) :
    Calls Try.prog 3 #[.int .u16 seq, .int .u32 ts, .int .u16 hi, .int .u32 re, .bool b, .int .u16 ba, .int .u32 cy, .int .i64 rc, .int .i64 ep, .int .i64 rp, .agg (tsArr u f), .agg (tkArr u h)] w fun e w' => e = .returned (.bool true) ∧ Grown w w' := by
  cases b
  · exact table_fresh u seq ts hi re ba cy rc ep rp f h w q0 q1 p0 p1
  · exact table_on u seq ts hi re ba cy rc ep rp f h w q0 q1 p0 p1
end Go.Proofs.Qxb6605266a.Seq
