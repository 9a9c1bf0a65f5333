import Derived.Test.Qxb6605266aRows
import Derived.Test.Qxb6605266aMem
import Derived.WalkSpells
import Derived.WalkLawsBesides
import Derived.Deep.RegionHeld3
import Derived.Outline
namespace Go.Proofs.Qxb6605266a.Seq
open Go Go.RowKit
set_option linter.unusedVariables false
set_option maxRecDepth 100000


/-- what the walk knows of a window's cells -/
structure Win (w : World) (g : Nat) (R : St → World) : Prop where
  c0 : ∀ s, (R s).cell? ⟨g, 0, none⟩ = some (.int .u16 s.highest)
  c1 : ∀ s, (R s).cell? ⟨g, 1, none⟩ = some (.int .u32 s.restart)
  c2 : ∀ s, (R s).cell? ⟨g, 2, none⟩ = some (.bool s.started)
  c3 : ∀ s, (R s).cell? ⟨g, 3, none⟩ = some (.int .u16 s.base)
  c4 : ∀ s, (R s).cell? ⟨g, 4, none⟩ = some (.int .u32 s.cycles)
  c5 : ∀ s, (R s).cell? ⟨g, 5, none⟩ = some (.int .i64 s.recv)
  c6 : ∀ s, (R s).cell? ⟨g, 6, none⟩ = some (.int .i64 s.ep)
  c7 : ∀ s, (R s).cell? ⟨g, 7, none⟩ = some (.int .i64 s.rp)
  ct : ∀ s j, j < 128 → (R s).cell? ⟨g, 8 + j * 2, none⟩ = some (.int .u32 (s.ts j))
  ck : ∀ s j, j < 128 → (R s).cell? ⟨g, 8 + j * 2 + 1, none⟩ = some (.bool (s.tk j))
  fz : ∀ s j, (R s).frozen? ⟨g, j, none⟩ = false
  s0 : ∀ s x, (R s).setCell ⟨g, 0, none⟩ (.int .u16 x) = R { s with highest := x }
  s1 : ∀ s x, (R s).setCell ⟨g, 1, none⟩ (.int .u32 x) = R { s with restart := x }
  s2 : ∀ s x, (R s).setCell ⟨g, 2, none⟩ (.bool x) = R { s with started := x }
  s3 : ∀ s x, (R s).setCell ⟨g, 3, none⟩ (.int .u16 x) = R { s with base := x }
  s4 : ∀ s x, (R s).setCell ⟨g, 4, none⟩ (.int .u32 x) = R { s with cycles := x }
  s5 : ∀ s x, (R s).setCell ⟨g, 5, none⟩ (.int .i64 x) = R { s with recv := x }
  s6 : ∀ s x, (R s).setCell ⟨g, 6, none⟩ (.int .i64 x) = R { s with ep := x }
  s7 : ∀ s x, (R s).setCell ⟨g, 7, none⟩ (.int .i64 x) = R { s with rp := x }
  st : ∀ s j x, j < 128 → (R s).setCell ⟨g, 8 + j * 2, none⟩ (.int .u32 x) = R { s with ts := upd s.ts j x }
  sk : ∀ s j x, j < 128 → (R s).setCell ⟨g, 8 + j * 2 + 1, none⟩ (.bool x) = R { s with tk := upd s.tk j x }

/-- how far slot j lies back from seq -/
def back (seq : Int) (j : Nat) : Int := (seq - j) % 128
/-- the slots that lie more than k and less than m back are cleared -/
def clr (s : St) (seq m k : Int) : St :=
  { s with ts := fun j => if j < 128 ∧ k < back seq j ∧ back seq j < m then 0 else s.ts j, tk := fun j => if j < 128 ∧ k < back seq j ∧ back seq j < m then false else s.tk j }

theorem back_iff (seq k v : Int) (i j : Nat) (hj : j = (v % 128).toNat) (v0 : 0 ≤ v) (hk : (seq - v) % 65536 = k) (k8 : k < 128) (hi : i < 128) : i = j ↔ back seq i = k := by
  unfold back
  omega
theorem upd_if {α : Type} (seq m k v : Int) (j : Nat) (f : Nat → α) (x : α) (hj : j = (v % 128).toNat) (v0 : 0 ≤ v) (hk : (seq - v) % 65536 = k) (k0 : 0 < k) (km : k < m) (m8 : m ≤ 128) :
    upd (fun i => if i < 128 ∧ k < back seq i ∧ back seq i < m then x else f i) j x = fun i => if i < 128 ∧ k - 1 < back seq i ∧ back seq i < m then x else f i := by
  funext i
  show (if i = j then x else if i < 128 ∧ k < back seq i ∧ back seq i < m then x else f i) = if i < 128 ∧ k - 1 < back seq i ∧ back seq i < m then x else f i
  by_cases h : i < 128
  · have hb := back_iff seq k v i j hj v0 hk (by omega) h
    by_cases e : i = j
    · rw [if_pos e, if_pos ⟨h, by rw [hb.1 e]; omega⟩]
    · have e' : back seq i ≠ k := fun x => e (hb.2 x)
      rw [if_neg e]
      by_cases c : k < back seq i ∧ back seq i < m
      · rw [if_pos ⟨h, c⟩, if_pos ⟨h, by omega⟩]
      · rw [if_neg (fun x => c x.2), if_neg (fun x => c (by omega))]
  · rw [if_neg (by omega), if_neg (fun x => h x.1), if_neg (fun x => h x.1)]
theorem clr_step (s : St) (seq m k v : Int) (j : Nat) (hj : j = (v % 128).toNat) (v0 : 0 ≤ v) (hk : (seq - v) % 65536 = k) (k0 : 0 < k) (km : k < m) (m8 : m ≤ 128) :
    { clr s seq m k with ts := upd (clr s seq m k).ts j 0, tk := upd (clr s seq m k).tk j false } = clr s seq m (k - 1) := by
  have e1 : upd (clr s seq m k).ts j 0 = (clr s seq m (k - 1)).ts := upd_if seq m k v j s.ts 0 hj v0 hk k0 km m8
  have e2 : upd (clr s seq m k).tk j false = (clr s seq m (k - 1)).tk := upd_if seq m k v j s.tk false hj v0 hk k0 km m8
  rw [e1, e2]
  rfl
theorem clr_none (s : St) (seq m : Int) : clr s seq m (m - 1) = s := by
  have e1 : (clr s seq m (m - 1)).ts = s.ts := by funext i; exact if_neg (by omega)
  have e2 : (clr s seq m (m - 1)).tk = s.tk := by funext i; exact if_neg (by omega)
  show { s with ts := (clr s seq m (m - 1)).ts, tk := (clr s seq m (m - 1)).tk } = s
  rw [e1, e2]

/-- the smaller of two: plain, and shut to the walk -/
def mn (x y : Int) : Int := if y < x then y else x
theorem run_min_mn {P : Program} {w : World} (ts : Array TypeId) (t : TypeId) (k k' : IntKind) (x y : Int) : (Builtin.min_ ts t #[.int k x, .int k' y]).run P w = .ok (.int k (mn x y)) w := by
  rw [run_min_int2]; rfl
attribute [local go_sem ↓] run_min_mn

set_option maxHeartbeats 400000 in
theorem forget_any (s : St) (seq m : Int) (g : Nat) (w : World) (R : St → World) (hR : Win w g R) (q0 : 0 ≤ seq) (q1 : seq ≤ 65535) (p0 : 0 ≤ s.highest) (p1 : s.highest ≤ 65535)
    (hm : mn (IntKind.u16.wrap (seq - s.highest)) 128 = m) (m0 : 1 ≤ m) (m1 : m ≤ 128) :
    Calls Try.prog 18 #[.pointer (some ⟨g, 0, none⟩), .int .u16 seq] (R s) fun e w' => e = .returned (.tuple #[]) ∧ w' = R (clr s seq m 0) := by
  have c0 := hR.c0
  have fz := hR.fz
  go_enter Try.func18, Try.ntmps18
  go_wp2
  go_loopw [4] (fun x wr => ∃ v k : Int, x = .int .u16 v ∧ 0 ≤ v ∧ v ≤ 65535 ∧ Hid ((seq - v) % 65536 = k) ∧ 0 ≤ k ∧ k < m ∧ wr = R (clr s seq m k)) (fun x _ => ((seq - intOf x) % 65536).toNat)
  case atStart =>
    refine ⟨_, m - 1, rfl, ?_, ?_, ?_, by omega, by omega, by rw [clr_none]⟩
    · rw [IntKind.wrap_u16]; omega
    · rw [IntKind.wrap_u16]; omega
    · show _ = _
      rw [IntKind.wrap_u16, IntKind.wrap_u16]; omega
  case round =>
    obtain ⟨v, k, rfl, v0, v1, hk, k0, km, rfl⟩ := hrel
    by_cases hv : v = seq
    · subst hv
      have e : k = 0 := by have := hk.out; omega
      have E : Hid (k = 0) := e
      clear e
      go_wp2
      go_end0
      exact ⟨rfl, by rw [E.out]⟩
    · have hv' : (v != seq) = true := by simpa using hv
      have st := fun t x => hR.st t (v % 128).toNat x (by omega)
      have sk := fun t x => hR.sk t (v % 128).toNat x (by omega)
      have ct := fun t => hR.ct t (v % 128).toNat (by omega)
      have ck := fun t => hR.ck t (v % 128).toNat (by omega)
      have hs := clr_step s seq m k v (v % 128).toNat rfl v0 hk.out (by have := hk.out; omega) km m1
      have HS : Hid (R { clr s seq m k with ts := upd (clr s seq m k).ts (v % 128).toNat 0, tk := upd (clr s seq m k).tk (v % 128).toNat false } = R (clr s seq m (k - 1))) := by show _ = _; rw [hs]
      clear hs
      go_wp2
      go_roundw
      case rel =>
        refine ⟨_, k - 1, rfl, ?_, ?_, ?_, ?_, by omega, HS.out⟩
        · rw [IntKind.wrap_u16]; omega
        · rw [IntKind.wrap_u16]; omega
        · show _ = _
          have := hk.out
          rw [IntKind.wrap_u16]; omega
        · have := hk.out
          omega
      case measure =>
        have := hk.out
        simp only [intOf, IntKind.wrap_u16]
        omega
end Go.Proofs.Qxb6605266a.Seq
