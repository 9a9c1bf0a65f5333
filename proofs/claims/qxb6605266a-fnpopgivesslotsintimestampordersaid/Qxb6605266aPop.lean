import Derived.Test.Qxb6605266aRows
import Derived.Test.Qxb6605266aMem
import Derived.WalkSpells
import Derived.WalkLawsBesides
import Derived.Deep.RegionHeld3
import Derived.BigQuiet
import Derived.Outline
namespace Go.Proofs.Qxb6605266a.Pop
open Go Go.RowKit
set_option linter.unusedVariables false
set_option maxRecDepth 100000

/-- two timestamps as serial numbers: a after b by so much -/
def tsc (a b : Int) : Int := ((a - b) + 2147483648) % 4294967296 - 2147483648
theorem ret_int {k : IntKind} {a b : Int} (h : a = b) : Ending.returned (.int k a) = .returned (.int k b) := by rw [h]
theorem tsc_wrap (a b : Int) : wrap64 (wrap32 ((a - b) % 4294967296)) = tsc a b := by unfold wrap64 wrap32 tsc; omega

set_option maxHeartbeats 400000 in
theorem tsc_any (a b : Int) (w : World) :
    Calls Try.prog 19 #[.int .u32 a, .int .u32 b] w fun e w' => e = .returned (.int .i64 (tsc a b)) ∧ w' = w := by
  go_enter Try.func19, Try.ntmps19
  go_wp2
  go_ret
  exact ⟨ret_int (tsc_wrap a b), rfl⟩

/-- what pop turns -/
structure Qs where
  first : Int
  next : Int
  started : Bool
  out : Int
  eo : Int
/-- the frames, by index -/
structure Fs where
  ts : Nat → Int
  st : Nat → Int
  sz : Nat → Int
  ty : Nat → ByteArray
  oc : Nat → Nat → Int
/-- what stays: the slice held, last, taken, empty -/
structure Ks where
  A : Option Addr
  n : Nat
  last : Int
  taken : Bool
  empty : ByteArray

/-- what the walk knows of a queue's cells -/
structure Que (g : Nat) (K : Ks) (R : Qs → World) : Prop where
  c0 : ∀ q, (R q).cell? ⟨g, 0, none⟩ = some (.slice K.A K.n K.n)
  c1 : ∀ q, (R q).cell? ⟨g, 1, none⟩ = some (.int .i64 q.first)
  c2 : ∀ q, (R q).cell? ⟨g, 2, none⟩ = some (.int .u32 q.next)
  c3 : ∀ q, (R q).cell? ⟨g, 3, none⟩ = some (.int .u32 K.last)
  c4 : ∀ q, (R q).cell? ⟨g, 4, none⟩ = some (.bool K.taken)
  c5 : ∀ q, (R q).cell? ⟨g, 5, none⟩ = some (.bool q.started)
  c6 : ∀ q, (R q).cell? ⟨g, 6, none⟩ = some (.string K.empty)
  c8 : ∀ q, (R q).cell? ⟨g, 8, none⟩ = some (.int .i64 q.out)
  c9 : ∀ q, (R q).cell? ⟨g, 9, none⟩ = some (.int .i64 q.eo)
  fz : ∀ q j, (R q).frozen? ⟨g, j, none⟩ = false
  s1 : ∀ q x, (R q).setCell ⟨g, 1, none⟩ (.int .i64 x) = R { q with first := x }
  s2 : ∀ q x, (R q).setCell ⟨g, 2, none⟩ (.int .u32 x) = R { q with next := x }
  s5 : ∀ q x, (R q).setCell ⟨g, 5, none⟩ (.bool x) = R { q with started := x }
  s8 : ∀ q x, (R q).setCell ⟨g, 8, none⟩ (.int .i64 x) = R { q with out := x }
  s9 : ∀ q x, (R q).setCell ⟨g, 9, none⟩ (.int .i64 x) = R { q with eo := x }

/-- frame i lies in block h -/
structure Fra (h : Nat) (F : Fs) (i : Nat) (R : Qs → World) : Prop where
  t : ∀ q, (R q).cell? ⟨h, i * 26, none⟩ = some (.int .u32 (F.ts i))
  s : ∀ q, (R q).cell? ⟨h, i * 26 + 1, none⟩ = some (.int .u8 (F.st i))
  z : ∀ q, (R q).cell? ⟨h, i * 26 + 2, none⟩ = some (.int .u8 (F.sz i))
  y : ∀ q, (R q).cell? ⟨h, i * 26 + 3, none⟩ = some (.string (F.ty i))

theorem setCell_drewN (w : World) (n : Nat) (a : Addr) (v : Value) : (w.drewN n).setCell a v = (w.setCell a v).drewN n := rfl
theorem setCell_drew (w : World) (a : Addr) (v : Value) : (w.drew).setCell a v = (w.setCell a v).drew := rfl

/-- an empty slot was given out -/
def gave (q : Qs) : Qs := { q with next := (q.next + 160) % 4294967296, started := true, out := wrap64 (q.out + 1), eo := wrap64 (q.eo + 1) }
/-- frame at ts was given out -/
def handed (q : Qs) (t : Int) : Qs := { q with first := q.first + 1, next := (t + 160) % 4294967296, started := true, out := wrap64 (q.out + 1) }

attribute [local go_sem] setCell_drewN setCell_drew
theorem results_tmp4 {fn : Func} {t u v x : Tmp} (h : fn.results = #[.tmp t, .tmp u, .tmp v, .tmp x]) (tmps : Array Value) (P : Program) (w : World) :
    (results fn tmps).run P w = .ok (.tuple #[tmps.getD t undef, tmps.getD u undef, tmps.getD v undef, tmps.getD x undef]) w := by
  simp [results, h]

-- every frame given out, no slot claimed
set_option maxHeartbeats 1000000 in
theorem pop_none (q : Qs) (K : Ks) (g : Nat) (R : Qs → World) (hR : Que g K R) (m : Nat) (f0 : 0 ≤ q.first) (f1 : q.first ≤ 4096) (hn : K.n ≤ 4096) (hf : (K.n : Int) ≤ q.first)
    (h : 0 < tsc q.next K.last ∨ K.taken = false) :
    Calls Try.prog 17 #[.pointer (some ⟨g, 0, none⟩)] ((R q).drewN m) fun e w' => e = .returned (.tuple #[.int .u32 0, .string ⟨#[]⟩, .slice none 0 0, .bool false]) ∧ w' = (R q).drewN m := by
  obtain ⟨c0, c1, c2, c3, c4, c5, c6, c8, c9, fz, s1, s2, s5, s8, s9⟩ := hR
  by_cases ht : 0 < tsc q.next K.last
  · clear h
    go_enter Try.func17, Try.ntmps17
    go_wp2_with fail
    refine (tsc_any q.next K.last _).mono ?_
    rintro e w' ⟨rfl, rfl⟩
    go_wp2
    (try simp only [Exit.inBlock, Exit.then])
    refine bodyPost_ret (results_tmp4 rfl _ _ _) rfl ?_
    exact ⟨rfl, rfl⟩
  · have hk : K.taken = false := h.resolve_left ht
    clear h
    go_enter Try.func17, Try.ntmps17
    go_wp2_with fail
    refine (tsc_any q.next K.last _).mono ?_
    rintro e w' ⟨rfl, rfl⟩
    go_wp2
    (try simp only [Exit.inBlock, Exit.then])
    refine bodyPost_ret (results_tmp4 rfl _ _ _) rfl ?_
    exact ⟨rfl, rfl⟩

-- an empty slot behind the frames
set_option maxHeartbeats 1000000 in
theorem pop_tail (q : Qs) (K : Ks) (g : Nat) (R : Qs → World) (hR : Que g K R) (m : Nat) (f0 : 0 ≤ q.first) (f1 : q.first ≤ 4096) (hn : K.n ≤ 4096) (hf : (K.n : Int) ≤ q.first)
    (ht : ¬ 0 < tsc q.next K.last) (hk : K.taken = true) :
    Calls Try.prog 17 #[.pointer (some ⟨g, 0, none⟩)] ((R q).drewN m) fun e w' => e = .returned (.tuple #[.int .u32 q.next, .string K.empty, .slice none 0 0, .bool true]) ∧ ∃ m', w' = (R (gave q)).drewN m' := by
  obtain ⟨c0, c1, c2, c3, c4, c5, c6, c8, c9, fz, s1, s2, s5, s8, s9⟩ := hR
  go_enter Try.func17, Try.ntmps17
  go_wp2_with fail
  refine (tsc_any q.next K.last _).mono ?_
  rintro e w' ⟨rfl, rfl⟩
  go_wp2
  go_region
  all_goals go_wp2
  go_region_held3 (fun W => W.cell? ⟨g, 6, none⟩ = some (.string K.empty)) (go_simp) (fail)
  all_goals go_wp2
  (try simp only [Exit.inBlock, Exit.then])
  refine bodyPost_ret (results_tmp4 rfl _ _ _) rfl ?_
  exact ⟨rfl, m + 2, rfl⟩

-- an empty slot ahead of frame i
set_option maxHeartbeats 1000000 in
theorem pop_gap (q : Qs) (K : Ks) (F : Fs) (i g h : Nat) (R : Qs → World) (hR : Que g K R) (hA : K.A = some ⟨h, 0, none⟩) (hF : Fra h F i R) (m : Nat) (hq : q.first = i) (hi : i < K.n) (hn : K.n ≤ 4096)
    (ht : ¬ tsc (F.ts i) q.next < 160) :
    Calls Try.prog 17 #[.pointer (some ⟨g, 0, none⟩)] ((R q).drewN m) fun e w' => e = .returned (.tuple #[.int .u32 q.next, .string K.empty, .slice none 0 0, .bool true]) ∧ ∃ m', w' = (R (gave q)).drewN m' := by
  obtain ⟨c0, c1, c2, c3, c4, c5, c6, c8, c9, fz, s1, s2, s5, s8, s9⟩ := hR
  obtain ⟨ft, fs, fzz, fy⟩ := hF
  obtain ⟨first, next, started, out, eo⟩ := q
  subst hq
  go_enter Try.func17, Try.ntmps17
  go_wp2_with fail
  refine (tsc_any (F.ts i) next _).mono ?_
  rintro e w' ⟨rfl, rfl⟩
  go_wp2
  go_region
  all_goals go_wp2
  go_region_held3 (fun W => W.cell? ⟨g, 6, none⟩ = some (.string K.empty)) (go_simp) (fail)
  all_goals go_wp2
  (try simp only [Exit.inBlock, Exit.then])
  refine bodyPost_ret (results_tmp4 rfl _ _ _) rfl ?_
  exact ⟨rfl, m + 2, rfl⟩

-- frame i, of no octets
set_option maxHeartbeats 1000000 in
theorem pop_bare (q : Qs) (K : Ks) (F : Fs) (i g h : Nat) (R : Qs → World) (hR : Que g K R) (hA : K.A = some ⟨h, 0, none⟩) (hF : Fra h F i R) (m : Nat) (hq : q.first = i) (hi : i < K.n) (hn : K.n ≤ 4096)
    (ht : tsc (F.ts i) q.next < 160) (hz : F.sz i = 0) :
    Calls Try.prog 17 #[.pointer (some ⟨g, 0, none⟩)] ((R q).drewN m) fun e w' => e = .returned (.tuple #[.int .u32 (F.ts i), .string (F.ty i), .slice none 0 0, .bool true]) ∧ ∃ m', w' = (R (handed q (F.ts i))).drewN m' := by
  obtain ⟨c0, c1, c2, c3, c4, c5, c6, c8, c9, fz, s1, s2, s5, s8, s9⟩ := hR
  obtain ⟨ft, fs, fzz, fy⟩ := hF
  obtain ⟨first, next, started, out, eo⟩ := q
  subst hq
  go_enter Try.func17, Try.ntmps17
  go_wp2_with fail
  refine (tsc_any (F.ts i) next _).mono ?_
  rintro e w' ⟨rfl, rfl⟩
  go_wp2
  go_region_held3 (fun W => W.cell? ⟨h, i * 26, none⟩ = some (.int .u32 (F.ts i)) ∧ W.cell? ⟨h, i * 26 + 3, none⟩ = some (.string (F.ty i))) (refine ⟨?_, ?_⟩ <;> go_simp) (fail)
  all_goals go_wp2
  (try simp only [Exit.inBlock, Exit.then])
  refine bodyPost_ret (results_tmp4 rfl _ _ _) rfl ?_
  exact ⟨rfl, m + 1, rfl⟩
theorem w64_in (n : Int) (h0 : 0 ≤ n) (h1 : n ≤ 9223372036854775807) : IntKind.i64.wrap n = n := by rw [IntKind.wrap_i64]; omega
theorem en_wrap (st sz en : Nat) (he : en = st + sz) (h : st + sz ≤ 22) : IntKind.i64.wrap (IntKind.i64.wrap st + IntKind.i64.wrap sz) = en := by
  rw [w64_in st (by omega) (by omega), w64_in sz (by omega) (by omega), w64_in _ (by omega) (by omega)]; omega
theorem slice_oc (a : Addr) (st sz en : Nat) (he : en = st + sz) (z0 : 0 < sz) (z1 : st + sz ≤ 22) (W : World) :
    (Instr.sliceAt 37 (.pointer (some a)) (some (.int .u8 st)) (some (.int .i64 en)) (some (.int .i64 en))).run Try.prog W = .ok (.slice (some (a.add st)) sz sz) W := by
  have hl : Try.prog.arrayLen 37 = 22 := by kernel_rfl
  have he' : Try.prog.elem 37 = 5 := by kernel_rfl
  have hs : (sizeOf 5).run Try.prog W = .ok 1 W := by kernel_rfl
  rw [run_sliceAt_array_lhm W 37 a (by rw [hl, he']; exact Try.underlying37) .u8 .i64 .i64 st en en (by omega) (by omega) (by omega) (by rw [hl]; omega), he', hs]
  show Result.ok (slicedAt a _ _ _ 1) W = _
  unfold slicedAt
  rw [if_neg (by omega)]
  congr 2
  · simp
  · simp; omega
  · simp; omega
-- frame i, with its octets
set_option maxHeartbeats 1000000 in
theorem pop_full (q : Qs) (K : Ks) (F : Fs) (i g h : Nat) (R : Qs → World) (hR : Que g K R) (hA : K.A = some ⟨h, 0, none⟩) (hF : Fra h F i R) (m : Nat) (hq : q.first = i) (hi : i < K.n) (hn : K.n ≤ 4096)
    (ht : tsc (F.ts i) q.next < 160) (st : Nat) (hst : F.st i = st) (sz : Nat) (hsz : F.sz i = sz) (z0 : 0 < sz) (z1 : st + sz ≤ 22) :
    Calls Try.prog 17 #[.pointer (some ⟨g, 0, none⟩)] ((R q).drewN m) fun e w' => e = .returned (.tuple #[.int .u32 (F.ts i), .string (F.ty i), .slice (some ⟨h, i * 26 + 4 + st, none⟩) sz sz, .bool true]) ∧ ∃ m', w' = (R (handed q (F.ts i))).drewN m' := by
  obtain ⟨c0, c1, c2, c3, c4, c5, c6, c8, c9, fz, s1, s2, s5, s8, s9⟩ := hR
  obtain ⟨ft, fs, fzz, fy⟩ := hF
  obtain ⟨first, next, started, out, eo⟩ := q
  subst hq
  rw [hst] at fs
  rw [hsz] at fzz
  have z2 : ((sz : Int) == 0) = false := by simp; omega
  obtain ⟨en, hen⟩ : ∃ en, en = st + sz := ⟨_, rfl⟩
  have hw : IntKind.i64.wrap (IntKind.i64.wrap st + IntKind.i64.wrap sz) = en := en_wrap st sz en hen z1
  have hsl : ∀ W, (Instr.sliceAt 37 (.pointer (some ⟨h, i * 26 + 4, none⟩)) (some (.int .u8 st)) (some (.int .i64 en)) (some (.int .i64 en))).run Try.prog W = .ok (.slice (some ⟨h, i * 26 + 4 + st, none⟩) sz sz) W := fun W => by
    rw [slice_oc _ st sz en hen z0 z1 W]
    congr 2
    unfold Addr.add
    by_cases h0 : st = 0
    · rw [if_pos h0, h0]
    · rw [if_neg h0]
  have HE : Hid (en = st + sz) := hen
  clear hen
  go_enter Try.func17, Try.ntmps17
  go_wp2_with fail
  refine (tsc_any (F.ts i) next _).mono ?_
  rintro e w' ⟨rfl, rfl⟩
  go_wp2
  go_region_held3 (fun W => W.cell? ⟨h, i * 26 + 1, none⟩ = some (.int .u8 st) ∧ W.cell? ⟨h, i * 26 + 2, none⟩ = some (.int .u8 sz)) (refine ⟨?_, ?_⟩ <;> go_simp) (fail)
  all_goals go_wp2
  go_region_held3 (fun W => W.cell? ⟨h, i * 26, none⟩ = some (.int .u32 (F.ts i)) ∧ W.cell? ⟨h, i * 26 + 3, none⟩ = some (.string (F.ty i)) ∧ W.cell? ⟨h, i * 26 + 1, none⟩ = some (.int .u8 st)) (refine ⟨?_, ?_, ?_⟩ <;> go_simp) (fail)
  all_goals go_wp2
  (try simp only [Exit.inBlock, Exit.then])
  refine bodyPost_ret (results_tmp4 rfl _ _ _) rfl ?_
  exact ⟨rfl, m + 2, rfl⟩

end Go.Proofs.Qxb6605266a.Pop
