import Derived.Test.Qxb6605266aPop
import Derived.Lib.SliceRun
import Derived.Deep.WholeRow
namespace Go.Proofs.Qxb6605266a.Pop
open Go Go.RowKit
open Go.Proofs.Qxb6605266a.Seq (blk)
set_option linter.unusedVariables false
set_option maxRecDepth 100000

theorem eql45 (a : Option Addr) (l c : Nat) (W : World) : (binOp .eql 45 (.slice a l c) (.slice none 0 0)).run Try.prog W = .ok (.bool a.isNone) W :=
  Lib.run_eql_slice_nil W 45 5 a l c 0 0 Try.underlying45
attribute [local go_sem] eql45

set_option maxHeartbeats 400000 in
theorem zzpop_of {g : Nat} {W : World} {a : Int} {b : ByteArray} {c : Value} {d : Bool} {P : World → Prop}
    (h : Calls Try.prog 17 #[.pointer (some ⟨g, 0, none⟩)] W fun e w' => e = .returned (.tuple #[.int .u32 a, .string b, c, .bool d]) ∧ P w') :
    Calls Try.prog 13 #[.pointer (some ⟨g, 0, none⟩)] W fun e w' => e = .returned (.tuple #[.int .u32 a, .string b, c, .bool d]) ∧ P w' := by
  go_enter Try.func13, Try.ntmps13
  go_wp2_with fail
  refine h.mono ?_
  rintro e w' ⟨rfl, hP⟩
  go_wp2
  (try simp only [Exit.inBlock, Exit.then])
  refine bodyPost_ret (results_tmp4 rfl _ _ _) rfl ?_
  exact ⟨rfl, hP⟩

set_option maxHeartbeats 400000 in
theorem empty_of {g : Nat} {W : World} {a : Int} {b : ByteArray} {P : World → Prop}
    (h : Calls Try.prog 17 #[.pointer (some ⟨g, 0, none⟩)] W fun e w' => e = .returned (.tuple #[.int .u32 a, .string b, .slice none 0 0, .bool true]) ∧ P w') :
    Calls Try.prog 12 #[.pointer (some ⟨g, 0, none⟩), .int .u32 a, .string b] W fun e w' => e = .returned (.bool true) ∧ P w' := by
  go_enter Try.func12, Try.ntmps12
  go_wp2_with fail
  refine (zzpop_of h).mono ?_
  rintro e w' ⟨rfl, hP⟩
  go_wp2
  go_ret
  exact ⟨rfl, hP⟩

/-- cell k of frame i -/
def frCell (F : Fs) (i k : Nat) : Value :=
  if k = 0 then .int .u32 (F.ts i) else if k = 1 then .int .u8 (F.st i) else if k = 2 then .int .u8 (F.sz i) else if k = 3 then .string (F.ty i) else .int .u8 (F.oc i (k - 4))
/-- a frame's cells, behind a key -/
def frArr (u : Bool) (F : Fs) (i : Nat) : Array Value := match u with
  | true => Array.ofFn (n := 26) fun k => frCell F i k.val
  | false => Array.ofFn (n := 26) fun k => frCell F i k.val
/-- a frame's octets -/
def ocArr (u : Bool) (f : Nat → Int) : Array Value := match u with
  | true => Array.ofFn (n := 22) fun k => .int .u8 (f k.val)
  | false => Array.ofFn (n := 22) fun k => .int .u8 (f k.val)
theorem frArr_size (u : Bool) (F : Fs) (i : Nat) : (frArr u F i).size = 26 := by cases u <;> exact Array.size_ofFn
theorem ocArr_size (u : Bool) (f : Nat → Int) : (ocArr u f).size = 22 := by cases u <;> exact Array.size_ofFn
theorem frArr_get (u : Bool) (F : Fs) (i k : Nat) (h : k < 26) : (frArr u F i)[k]? = some (frCell F i k) := by cases u <;> simp [frArr, h]
theorem ocArr_get (u : Bool) (f : Nat → Int) (k : Nat) (h : k < 22) : (ocArr u f)[k]? = some (.int .u8 (f k)) := by cases u <;> simp [ocArr, h]
theorem fr_key (u v : Bool) (F : Fs) (i : Nat) : frArr u F i = frArr v F i := by cases u <;> cases v <;> rfl
theorem oc_key (u v : Bool) (f : Nat → Int) : ocArr u f = ocArr v f := by cases u <;> cases v <;> rfl
theorem fr_get0 (u : Bool) (F : Fs) (i : Nat) : (frArr u F i)[0]? = some (.int .u32 (F.ts i)) := frArr_get u F i 0 (by omega)
theorem fr_get1 (u : Bool) (F : Fs) (i : Nat) : (frArr u F i)[1]? = some (.int .u8 (F.st i)) := frArr_get u F i 1 (by omega)
theorem fr_get2 (u : Bool) (F : Fs) (i : Nat) : (frArr u F i)[2]? = some (.int .u8 (F.sz i)) := frArr_get u F i 2 (by omega)
theorem fr_get3 (u : Bool) (F : Fs) (i : Nat) : (frArr u F i)[3]? = some (.string (F.ty i)) := frArr_get u F i 3 (by omega)
theorem fr_getO (u : Bool) (F : Fs) (i k : Nat) (h : k < 22) : (frArr u F i)[4 + k]? = some (.int .u8 (F.oc i k)) := by
  rw [frArr_get u F i _ (by omega)]; unfold frCell
  rw [if_neg (by omega), if_neg (by omega), if_neg (by omega), if_neg (by omega), show 4 + k - 4 = k by omega]
theorem fr_ne (u : Bool) (F : Fs) (i : Nat) : (frArr u F i = #[]) = False := eq_false fun h => by
  have := frArr_size u F i; rw [h] at this; exact absurd this (by decide)
theorem fr_lt (u : Bool) (F : Fs) (i n : Nat) (h : n ≤ 26) : ((frArr u F i).size < n) = False := eq_false (by rw [frArr_size]; omega)
theorem alloc_drewN (w : World) (n : Nat) (o : Obj) : (w.drewN n).alloc o = (w.alloc o).drewN n := rfl

attribute [local go_sem] setCell_drewN setCell_drew alloc_drewN fr_ne fr_lt fr_get0 fr_get1 fr_get2 fr_get3

-- octetsOf, a frame of no octets
set_option maxHeartbeats 400000 in
theorem octets_none (u : Bool) (F : Fs) (i : Nat) (w : World) (hz : F.sz i = 0) :
    Calls Try.prog 14 #[.slice none 0 0, .agg (frArr u F i)] w fun e w' => e = .returned (.bool true) ∧ w' = w.alloc (.cells (frArr u F i) 39) := by
  go_enter Try.func14, Try.ntmps14
  go_wp2
  go_ret
  exact ⟨rfl, rfl⟩

theorem cell_lt {w : World} {h o : Nat} {v : Value} (e : w.cell? ⟨h, o, none⟩ = some v) : h < w.heap.size := by
  by_cases c : h < w.heap.size
  · exact c
  · unfold World.cell? at e
    rw [Array.getElem?_eq_none (by show w.heap.size ≤ h; omega)] at e
    cases e
-- octetsOf, the frame's own octets
set_option maxHeartbeats 400000 in
theorem octets_some (u : Bool) (F : Fs) (i : Nat) (w : World) (h o st sz : Nat) (hst : F.st i = st) (hsz : F.sz i = sz) (z0 : 0 < sz) (z1 : st + sz ≤ 22)
    (hc : ∀ k, k < sz → w.cell? ⟨h, o + k, none⟩ = some (.int .u8 (F.oc i (st + k)))) :
    Calls Try.prog 14 #[.slice (some ⟨h, o, none⟩) sz sz, .agg (frArr u F i)] w fun e w' => e = .returned (.bool true) ∧ ∃ m, w' = (w.alloc (.cells (frArr u F i) 39)).drewN m := by
  have z2 : ((sz : Int) == 0) = false := by simp; omega
  have z3 : IntKind.i64.wrap (sz : Int) = sz := w64_in _ (by omega) (by omega)
  have z4 : IntKind.i64.wrap (st : Int) = st := w64_in _ (by omega) (by omega)
  go_enter Try.func14, Try.ntmps14
  go_wp2
  go_loopw [5] (fun x wr => ∃ k m : Nat, k ≤ sz ∧ x = .int .i64 k ∧ wr = (w.alloc (.cells (frArr u F i) 39)).drewN m) (fun x _ => sz - (intOf x).toNat)
  case atStart => exact ⟨0, 0, by omega, rfl, rfl⟩
  case round =>
    obtain ⟨k, m, hk, rfl, rfl⟩ := hrel
    by_cases hlt : k < sz
    · have hck := hc k hlt
      have hO := fr_getO u F i (st + k) (by omega)
      have hl := cell_lt hck
      have i0 : (0 : Int) ≤ (k : Int) := by omega
      have i1 : (k : Int) < sz := by omega
      have i2 : ((st : Int) + (k : Int)) < 22 := by omega
      have i3 : (0 : Int) ≤ ((st : Int) + (k : Int)) := by omega
      have i4 : IntKind.i64.wrap ((st : Int) + (k : Int)) = (st : Int) + k := w64_in _ (by omega) (by omega)
      have i5 : ((st : Int) + (k : Int)).toNat = st + k := by omega
      go_wp2
      go_region_held3 (fun W => W.cell? ⟨h, o + k, none⟩ = some (.int .u8 (F.oc i (st + k))) ∧ W.cell? ⟨w.heap.size, 1, none⟩ = some (.int .u8 st) ∧ W.cell? ⟨w.heap.size, 4 + (st + k), none⟩ = some (.int .u8 (F.oc i (st + k)))) (refine ⟨?_, ?_, ?_⟩ <;> go_simp) (fail)
      all_goals go_wp2
      go_roundw
      case rel => exact ⟨k + 1, m + 1, by omega, by go_num, rfl⟩
      case measure => simp [intOf]; omega
    · have hk2 : k = sz := by omega
      subst hk2
      go_wp2
      go_ret
      exact ⟨rfl, m, rfl⟩

/-- a queue's cells -/
def quArr (u : Bool) (K : Ks) (q : Qs) : Array Value := match u with
  | true => #[.slice K.A K.n K.n, .int .i64 q.first, .int .u32 q.next, .int .u32 K.last, .bool K.taken, .bool q.started, .string K.empty, .int .i64 0, .int .i64 q.out, .int .i64 q.eo, .pointer none, .int .u32 0]
  | false => #[.slice K.A K.n K.n, .int .i64 q.first, .int .u32 q.next, .int .u32 K.last, .bool K.taken, .bool q.started, .string K.empty, .int .i64 0, .int .i64 q.out, .int .i64 q.eo, .pointer none, .int .u32 0]
theorem qu_key (u v : Bool) (K : Ks) (q : Qs) : quArr u K q = quArr v K q := by cases u <;> cases v <;> rfl
theorem build63t (first next last : Int) (taken started : Bool) (empty : ByteArray) (out eo : Int) (w : World) :
    (Instr.build 63 #[(1, .int .i64 first), (2, .int .u32 next), (3, .int .u32 last), (4, .bool taken), (5, .bool started), (6, .string empty), (8, .int .i64 out), (9, .int .i64 eo)]).run Try.prog w
      = .ok (.agg (quArr true ⟨none, 0, last, taken, empty⟩ ⟨first, next, started, out, eo⟩)) w := by kernel_rfl
theorem build63 (u : Bool) (first next last : Int) (taken started : Bool) (empty : ByteArray) (out eo : Int) (w : World) :
    (Instr.build 63 #[(1, .int .i64 first), (2, .int .u32 next), (3, .int .u32 last), (4, .bool taken), (5, .bool started), (6, .string empty), (8, .int .i64 out), (9, .int .i64 eo)]).run Try.prog w
      = .ok (.agg (quArr u ⟨none, 0, last, taken, empty⟩ ⟨first, next, started, out, eo⟩)) w := by rw [qu_key u true]; exact build63t ..
theorem que_of {u : Bool} {K : Ks} {q0 : Qs} {w : World} {g : Nat} (hg : blk w g 63 (quArr u K q0)) : Que g K (fun q => w.setRow g (quArr u K q)) where
  c0 := fun q => by rw [(hg.row _).cell]; cases u <;> rfl
  c1 := fun q => by rw [(hg.row _).cell]; cases u <;> rfl
  c2 := fun q => by rw [(hg.row _).cell]; cases u <;> rfl
  c3 := fun q => by rw [(hg.row _).cell]; cases u <;> rfl
  c4 := fun q => by rw [(hg.row _).cell]; cases u <;> rfl
  c5 := fun q => by rw [(hg.row _).cell]; cases u <;> rfl
  c6 := fun q => by rw [(hg.row _).cell]; cases u <;> rfl
  c8 := fun q => by rw [(hg.row _).cell]; cases u <;> rfl
  c9 := fun q => by rw [(hg.row _).cell]; cases u <;> rfl
  fz := fun q j => (hg.row _).frozen j
  s1 := fun q x => by rw [Seq.setCell_setRow]; cases u <;> rfl
  s2 := fun q x => by rw [Seq.setCell_setRow]; cases u <;> rfl
  s5 := fun q x => by rw [Seq.setCell_setRow]; cases u <;> rfl
  s8 := fun q x => by rw [Seq.setCell_setRow]; cases u <;> rfl
  s9 := fun q x => by rw [Seq.setCell_setRow]; cases u <;> rfl

/-- a ZZQueueState's cells -/
def qsArr (K : Ks) (q : Qs) : Array Value := #[.int .i64 q.first, .int .u32 q.next, .int .u32 K.last, .bool K.taken, .bool q.started, .int .i64 q.out, .int .i64 q.eo]

theorem info50 : (Try.prog.info? 50).map (·.size) = some 7 := by kernel_rfl
set_option maxHeartbeats 1000000 in
theorem qstate_any (u : Bool) (K : Ks) (q : Qs) (g : Nat) (w : World) (hg : blk w g 63 (quArr u K q)) :
    Calls Try.prog 15 #[.pointer (some ⟨g, 0, none⟩)] w fun e w' => e = .returned (.agg (qsArr K q)) ∧ ∃ m, w' = (w.alloc (.cells (qsArr K q) 50)).drewN m := by
  have hR := que_of hg
  have hl := hg.lt
  obtain ⟨c0, c1, c2, c3, c4, c5, c6, c8, c9, fz, s1, s2, s5, s8, s9⟩ := hR
  replace c1 := c1 q
  replace c2 := c2 q
  replace c3 := c3 q
  replace c4 := c4 q
  replace c5 := c5 q
  replace c8 := c8 q
  replace c9 := c9 q
  simp only [hg.self] at c1 c2 c3 c4 c5 c8 c9
  clear c0 c6 fz s1 s2 s5 s8 s9 hg
  go_enter Try.func15, Try.ntmps15
  go_wp2
  go_region_held3 (fun W => W.cell? ⟨g, 1, none⟩ = some (.int .i64 q.first) ∧ W.cell? ⟨g, 2, none⟩ = some (.int .u32 q.next) ∧ W.cell? ⟨g, 3, none⟩ = some (.int .u32 K.last) ∧ W.cell? ⟨g, 4, none⟩ = some (.bool K.taken) ∧ W.cell? ⟨g, 5, none⟩ = some (.bool q.started) ∧ W.cell? ⟨g, 8, none⟩ = some (.int .i64 q.out) ∧ W.cell? ⟨g, 9, none⟩ = some (.int .i64 q.eo)) (refine ⟨?_, ?_, ?_, ?_, ?_, ?_, ?_⟩ <;> go_simp) (fail)
  all_goals go_wp2
  have hr : blk ((w.alloc (.cells (qsArr K q) 50)).drew) w.heap.size 50 (qsArr K q) := blk.new w _ _
  exact bodyPost_ret (v := .agg (qsArr K q)) (results_cell_row Try.results15 _ _ w.heap.size 50 (qsArr K q) (0, 0) _ rfl hr Try.underlying50 rfl info50) rfl ⟨rfl, 1, rfl⟩

/-- where all stands between two pops: W0 the world that came in, g the queue's block, h the frames' -/
structure Inv (u : Bool) (W0 : World) (K : Ks) (F : Fs) (g h : Nat) (q : Qs) (w : World) : Prop where
  gr : Below W0.heap.size W0 w
  g0 : W0.heap.size ≤ g
  qu : blk w g 63 (quArr u K q)
  ne : h ≠ g
  kA : K.A = some ⟨h, 0, none⟩
  kn : K.n ≤ 4096
  fr : ∀ i, i < K.n → ∀ k, k < 26 → w.cell? ⟨h, i * 26 + k, none⟩ = some (frCell F i k)

theorem below_drewN {B : Nat} {a w : World} (h : Below B a w) (m : Nat) : Below B a (w.drewN m) := ⟨h.os, h.tape, h.output, h.size, h.block⟩
theorem below_setRow {B : Nat} {a w : World} (h : Below B a w) {g : Nat} (hg : B ≤ g) (c : Array Value) : Below B a (w.setRow g c) :=
  ⟨h.os, h.tape, h.output, by rw [setRow_size]; exact h.size, fun k hk => by rw [setRow_other w g k c (by omega)]; exact h.block k hk⟩
theorem Inv.drewN {u W0 K F g h q w} (I : Inv u W0 K F g h q w) (m : Nat) : Inv u W0 K F g h q (w.drewN m) := ⟨below_drewN I.gr m, I.g0, I.qu.drewN m, I.ne, I.kA, I.kn, I.fr⟩
theorem cell_alloc {w : World} {h o : Nat} {v : Value} (e : w.cell? ⟨h, o, none⟩ = some v) (ob : Obj) : (w.alloc ob).cell? ⟨h, o, none⟩ = some v := by
  have hl := cell_lt e
  unfold World.cell? at e ⊢
  rw [Below.heap_alloc w ob h hl]
  exact e
theorem Inv.alloc {u W0 K F g h q w} (I : Inv u W0 K F g h q w) (o : Obj) : Inv u W0 K F g h q (w.alloc o) :=
  ⟨I.gr.alloc I.gr.size o, I.g0, I.qu.alloc o, I.ne, I.kA, I.kn, fun i hi k hk => cell_alloc (I.fr i hi k hk) o⟩
theorem cell_setRow {w : World} {h g o : Nat} {c : Array Value} (ne : h ≠ g) : (w.setRow g c).cell? ⟨h, o, none⟩ = w.cell? ⟨h, o, none⟩ := by
  unfold World.cell?
  rw [setRow_other w g h c ne]
theorem Inv.turn {u W0 K F g h q w} (I : Inv u W0 K F g h q w) (q' : Qs) (m : Nat) : Inv u W0 K F g h q' ((w.setRow g (quArr u K q')).drewN m) :=
  Inv.drewN ⟨below_setRow I.gr I.g0 _, I.g0, I.qu.row _, I.ne, I.kA, I.kn, fun i hi k hk => by rw [cell_setRow I.ne]; exact I.fr i hi k hk⟩ m
theorem Inv.frames {u W0 K F g h q w} (I : Inv u W0 K F g h q w) (i : Nat) (hi : i < K.n) : Fra h F i (fun q => w.setRow g (quArr u K q)) where
  t := fun q => by rw [cell_setRow I.ne]; exact I.fr i hi 0 (by omega)
  s := fun q => by rw [cell_setRow I.ne]; exact I.fr i hi 1 (by omega)
  z := fun q => by rw [cell_setRow I.ne]; exact I.fr i hi 2 (by omega)
  y := fun q => by rw [cell_setRow I.ne]; exact I.fr i hi 3 (by omega)
theorem Inv.self {u W0 K F g h q w} (I : Inv u W0 K F g h q w) : (w.setRow g (quArr u K q)).drewN 0 = w := by rw [I.qu.self]; rfl
theorem Inv.oct {u W0 K F g h q w} (I : Inv u W0 K F g h q w) (i k : Nat) (hi : i < K.n) (hk : k < 22) : w.cell? ⟨h, i * 26 + 4 + k, none⟩ = some (.int .u8 (F.oc i k)) := by
  have := I.fr i hi (4 + k) (by omega)
  rw [← Nat.add_assoc] at this
  rw [this]
  unfold frCell
  rw [if_neg (by omega), if_neg (by omega), if_neg (by omega), if_neg (by omega), show 4 + k - 4 = k by omega]

/-- popsEmptyAt behind the frames -/
theorem empty_tail {u W0 K F g h q w} (I : Inv u W0 K F g h q w) (f0 : 0 ≤ q.first) (f1 : q.first ≤ 4096) (hf : (K.n : Int) ≤ q.first) (ht : ¬ 0 < tsc q.next K.last) (hk : K.taken = true) (a : Int) (ha : a = q.next) :
    Calls Try.prog 12 #[.pointer (some ⟨g, 0, none⟩), .int .u32 a, .string K.empty] w fun e w' => e = .returned (.bool true) ∧ Inv u W0 K F g h (gave q) w' := by
  subst ha
  have c := empty_of (pop_tail q K g _ (que_of I.qu) 0 f0 f1 I.kn hf ht hk)
  rw [I.self] at c
  refine c.mono ?_
  rintro e w' ⟨rfl, m, rfl⟩
  exact ⟨rfl, I.turn _ m⟩
/-- popsEmptyAt ahead of frame i -/
theorem empty_gap {u W0 K F g h q w} (I : Inv u W0 K F g h q w) (i : Nat) (hq : q.first = i) (hi : i < K.n) (ht : ¬ tsc (F.ts i) q.next < 160) (a : Int) (ha : a = q.next) :
    Calls Try.prog 12 #[.pointer (some ⟨g, 0, none⟩), .int .u32 a, .string K.empty] w fun e w' => e = .returned (.bool true) ∧ Inv u W0 K F g h (gave q) w' := by
  subst ha
  have c := empty_of (pop_gap q K F i g h _ (que_of I.qu) I.kA (I.frames i hi) 0 hq hi I.kn ht)
  rw [I.self] at c
  refine c.mono ?_
  rintro e w' ⟨rfl, m, rfl⟩
  exact ⟨rfl, I.turn _ m⟩
/-- ZZPop when nothing is claimed -/
theorem zzpop_none {u W0 K F g h q w} (I : Inv u W0 K F g h q w) (f0 : 0 ≤ q.first) (f1 : q.first ≤ 4096) (hf : (K.n : Int) ≤ q.first) (ht : 0 < tsc q.next K.last ∨ K.taken = false) :
    Calls Try.prog 13 #[.pointer (some ⟨g, 0, none⟩)] w fun e w' => e = .returned (.tuple #[.int .u32 0, .string ⟨#[]⟩, .slice none 0 0, .bool false]) ∧ Inv u W0 K F g h q w' := by
  have c := zzpop_of (pop_none q K g _ (que_of I.qu) 0 f0 f1 I.kn hf ht)
  rw [I.self] at c
  refine c.mono ?_
  rintro e w' ⟨rfl, rfl⟩
  exact ⟨rfl, I⟩
/-- the octets that pop gives with frame i -/
def octv (F : Fs) (h i : Nat) : Value := if F.sz i = 0 then .slice none 0 0 else .slice (some ⟨h, i * 26 + 4 + (F.st i).toNat, none⟩) (F.sz i).toNat (F.sz i).toNat
/-- ZZPop at frame i -/
theorem zzpop_frame {u W0 K F g h q w} (I : Inv u W0 K F g h q w) (i : Nat) (hq : q.first = i) (hi : i < K.n) (ht : tsc (F.ts i) q.next < 160) (s0 : 0 ≤ F.st i) (z0 : 0 ≤ F.sz i) (z1 : 0 < F.sz i → F.st i + F.sz i ≤ 22) :
    Calls Try.prog 13 #[.pointer (some ⟨g, 0, none⟩)] w fun e w' => e = .returned (.tuple #[.int .u32 (F.ts i), .string (F.ty i), octv F h i, .bool true]) ∧ Inv u W0 K F g h (handed q (F.ts i)) w' := by
  unfold octv
  by_cases hz : F.sz i = 0
  · rw [if_pos hz]
    have c := zzpop_of (pop_bare q K F i g h _ (que_of I.qu) I.kA (I.frames i hi) 0 hq hi I.kn ht hz)
    rw [I.self] at c
    refine c.mono ?_
    rintro e w' ⟨rfl, m, rfl⟩
    exact ⟨rfl, I.turn _ m⟩
  · rw [if_neg hz]
    have z2 := z1 (by omega)
    have c := zzpop_of (pop_full q K F i g h _ (que_of I.qu) I.kA (I.frames i hi) 0 hq hi I.kn ht (F.st i).toNat (by omega) (F.sz i).toNat (by omega) (by omega) (by omega))
    rw [I.self] at c
    refine c.mono ?_
    rintro e w' ⟨rfl, m, rfl⟩
    exact ⟨rfl, I.turn _ m⟩
/-- octetsOf at these octets -/
theorem octets_any {u W0 K F g h q w} (I : Inv u W0 K F g h q w) (v : Bool) (i : Nat) (hi : i < K.n) (s0 : 0 ≤ F.st i) (z0 : 0 ≤ F.sz i) (z1 : 0 < F.sz i → F.st i + F.sz i ≤ 22) :
    Calls Try.prog 14 #[octv F h i, .agg (frArr v F i)] w fun e w' => e = .returned (.bool true) ∧ Inv u W0 K F g h q w' := by
  unfold octv
  by_cases hz : F.sz i = 0
  · rw [if_pos hz]
    refine (octets_none v F i w hz).mono ?_
    rintro e w' ⟨rfl, rfl⟩
    exact ⟨rfl, I.alloc _⟩
  · rw [if_neg hz]
    have z2 := z1 (by omega)
    refine (octets_some v F i w h (i * 26 + 4 + (F.st i).toNat) (F.st i).toNat (F.sz i).toNat (by omega) (by omega) (by omega) (by omega) (fun k hk => ?_)).mono ?_
    · rw [Nat.add_assoc]
      exact I.oct i _ hi (by omega)
    · rintro e w' ⟨rfl, m, rfl⟩
      exact ⟨rfl, (I.alloc _).drewN m⟩
/-- ZZSlotQueueState -/
theorem qstate_inv {u W0 K F g h q w} (I : Inv u W0 K F g h q w) :
    Calls Try.prog 15 #[.pointer (some ⟨g, 0, none⟩)] w fun e w' => e = .returned (.agg (qsArr K q)) ∧ Inv u W0 K F g h q w' := by
  refine (qstate_any u K q g w I.qu).mono ?_
  rintro e w' ⟨rfl, m, rfl⟩
  exact ⟨rfl, (I.alloc _).drewN m⟩
end Go.Proofs.Qxb6605266a.Pop
