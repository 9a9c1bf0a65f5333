import Derived.Test.Qxb6605266aPopM
namespace Go.Proofs.Qxb6605266a.Pop
open Go Go.RowKit
open Go.Proofs.Qxb6605266a.Seq (blk)
set_option linter.unusedVariables false

theorem arg_below {A n b o F} {w wr : World} (h : Arg A n b o F w) (hB : Below w.heap.size w wr) : Arg A n b o F wr :=
  ⟨h.hA, fun i hi k hk => by
    have e := h.fr i hi k hk
    have hl := cell_lt e
    unfold World.cell? at e ⊢
    rw [hB.block b hl]
    exact e⟩
/-- what came in, as the types say -/
structure Ran (n : Nat) (F : Fs) : Prop where
  ts0 : ∀ j, j < n → 0 ≤ F.ts j
  ts1 : ∀ j, j < n → F.ts j ≤ 4294967295
  st0 : ∀ j, j < n → 0 ≤ F.st j
  st1 : ∀ j, j < n → F.st j ≤ 255
  sz0 : ∀ j, j < n → 0 ≤ F.sz j
  sz1 : ∀ j, j < n → F.sz j ≤ 255
/-- what the law's filter has seen of the frames f .. i-1 -/
structure Good (F : Fs) (next sp : Int) (f i : Nat) : Prop where
  lo : ∀ j, f ≤ j → j < i → 0 ≤ tsc (F.ts j) next
  hi : ∀ j, f ≤ j → j < i → tsc (F.ts j) next ≤ sp
  up : ∀ j, f ≤ j → j + 1 < i → tsc (F.ts j) next < tsc (F.ts (j + 1)) next
  sz : ∀ j, f ≤ j → j < i → 0 < F.sz j → F.st j + F.sz j ≤ 22
theorem Good.none (F : Fs) (next sp : Int) (f : Nat) : Good F next sp f f := ⟨fun j a b => by omega, fun j a b => by omega, fun j a b => by omega, fun j a b => by omega⟩
theorem Good.more {F : Fs} {next sp : Int} {f i : Nat} (h : Good F next sp f i) (lo : 0 ≤ tsc (F.ts i) next) (hi : tsc (F.ts i) next ≤ sp) (up : f < i → tsc (F.ts (i - 1)) next < tsc (F.ts i) next) (sz : 0 < F.sz i → F.st i + F.sz i ≤ 22) : Good F next sp f (i + 1) where
  lo := fun j a b => if e : j = i then e ▸ lo else h.lo j a (by omega)
  hi := fun j a b => if e : j = i then e ▸ hi else h.hi j a (by omega)
  up := fun j a b => if e : j + 1 = i then by subst e; exact up (by omega) else h.up j a (by omega)
  sz := fun j a b => if e : j = i then e ▸ sz else h.sz j a (by omega)

/-- the queue when p pops, e of them empty, have been given -/
def Qv (started : Bool) (out eo : Int) (i : Nat) (c : Int) (p e : Nat) : Qs := ⟨i, c, started || decide (0 < p), wrap64 (out + p), wrap64 (eo + e)⟩
theorem wrap64_one (x : Int) (p : Nat) : wrap64 (wrap64 (x + p) + 1) = wrap64 (x + (p + 1 : Nat)) := by unfold wrap64; omega
theorem gave_Qv (started : Bool) (out eo : Int) (i : Nat) (c : Int) (p e : Nat) : gave (Qv started out eo i c p e) = Qv started out eo i ((c + 160) % 4294967296) (p + 1) (e + 1) := by
  unfold gave Qv
  simp only [wrap64_one, Nat.zero_lt_succ, decide_true, Bool.or_true]
theorem handed_Qv (started : Bool) (out eo : Int) (i : Nat) (c : Int) (p e : Nat) (t : Int) : handed (Qv started out eo i c p e) t = Qv started out eo (i + 1) ((t + 160) % 4294967296) (p + 1) e := by
  unfold handed Qv
  simp only [wrap64_one, Nat.zero_lt_succ, decide_true, Bool.or_true]
  rfl
theorem wrap64_in (x : Int) (h0 : -9223372036854775808 ≤ x) (h1 : x ≤ 9223372036854775807) : wrap64 x = x := by unfold wrap64; omega
theorem Qv_zero (started : Bool) (out eo : Int) (i : Nat) (c : Int) (o0 : -9223372036854775808 ≤ out) (o1 : out ≤ 9223372036854775807) (e0 : -9223372036854775808 ≤ eo) (e1 : eo ≤ 9223372036854775807) : Qv started out eo i c 0 0 = ⟨i, c, started, out, eo⟩ := by
  unfold Qv
  rw [show out + ((0 : Nat) : Int) = out by omega, show eo + ((0 : Nat) : Int) = eo by omega, wrap64_in out o0 o1, wrap64_in eo e0 e1]
  simp

/-- where the slot cursor stands when frame i is next -/
def Cur (F : Fs) (next : Int) (f i : Nat) (c : Int) : Prop := (i = f ∧ c = next) ∨ (f < i ∧ c = (F.ts (i - 1) + 160) % 4294967296)
theorem tsc_sub (a c : Int) (m : Nat) (h : -2147483648 ≤ tsc a c - 160 * (m : Int)) : tsc a ((c + 160 * (m : Int)) % 4294967296) = tsc a c - 160 * (m : Int) := by
  unfold tsc at *; omega
theorem tsc_neg (a b : Int) (h : tsc a b ≠ -2147483648) : tsc b a = - tsc a b := by unfold tsc at *; omega
theorem cur_step (m : Nat) (c : Int) : ((c + 160 * (m : Int)) % 4294967296 + 160) % 4294967296 = (c + 160 * ((m + 1 : Nat) : Int)) % 4294967296 := by omega
theorem cur_zero (c : Int) (h0 : 0 ≤ c) (h1 : c ≤ 4294967295) : (c + 160 * ((0 : Nat) : Int)) % 4294967296 = c := by omega
theorem cur_ran {F : Fs} {next : Int} {f i : Nat} {c : Int} (h : Cur F next f i c) (n0 : 0 ≤ next) (n1 : next ≤ 4294967295) : 0 ≤ c ∧ c ≤ 4294967295 := by
  rcases h with ⟨_, rfl⟩ | ⟨_, rfl⟩ <;> omega
theorem gap_two (x y next : Int) (h0 : 0 ≤ tsc x next) (h1 : tsc x next < tsc y next) (h2 : tsc y next ≤ 10485760) : -160 < tsc y ((x + 160) % 4294967296) ∧ tsc y ((x + 160) % 4294967296) ≤ 10485760 := by
  unfold tsc at *; omega
theorem gap_ran {F : Fs} {next sp c : Int} {f i n : Nat} (hG : Good F next sp f n) (hs : sp ≤ 10485760) (hf : f ≤ i) (hi : i < n) (hc : Cur F next f i c) : -160 < tsc (F.ts i) c ∧ tsc (F.ts i) c ≤ 10485760 := by
  have h1 := hG.lo i hf hi
  have h2 := hG.hi i hf hi
  rcases hc with ⟨_, rfl⟩ | ⟨hl, rfl⟩
  · omega
  · have h3 := hG.up (i - 1) (by omega) (by omega)
    rw [show i - 1 + 1 = i by omega] at h3
    exact gap_two (F.ts (i - 1)) (F.ts i) next (hG.lo (i - 1) (by omega) (by omega)) h3 (by omega)
/-- how many empty slots lie in a gap -/
def slots (g : Int) : Nat := if 160 ≤ g then (g / 160).toNat else 0
theorem slots_lt {g : Int} {m : Nat} (h : m < slots g) : 160 ≤ g - 160 * (m : Int) := by
  unfold slots at h; split at h <;> omega
theorem slots_end {g : Int} : g - 160 * (slots g : Int) < 160 := by
  unfold slots; split <;> omega
theorem slots_le {g : Int} (h : g ≤ 10485760) : slots g ≤ 65536 := by unfold slots; split <;> omega
theorem slots_lo {g : Int} (h : -160 < g) : -160 < g - 160 * (slots g : Int) := by unfold slots; split <;> omega
theorem gap_in {a c : Int} {m : Nat} (h : m < slots (tsc a c)) : ¬ tsc a ((c + 160 * (m : Int)) % 4294967296) < 160 := by
  have := slots_lt h
  rw [tsc_sub a c m (by omega)]; omega
theorem gap_end {a c : Int} (h : -160 < tsc a c) : tsc a ((c + 160 * (slots (tsc a c) : Int)) % 4294967296) < 160 := by
  have := @slots_end (tsc a c)
  have := slots_lo h
  rw [tsc_sub a c _ (by omega)]; omega
/-- the tail: how many slots up to last -/
def tails (g : Int) : Nat := (g / 160 + 1).toNat
theorem tail_in {a c : Int} {m : Nat} (h0 : 0 ≤ tsc a c) (h : m < tails (tsc a c)) : ¬ 0 < tsc ((c + 160 * (m : Int)) % 4294967296) a := by
  unfold tails at h
  have e := tsc_sub a c m (by omega)
  have := tsc_neg a ((c + 160 * (m : Int)) % 4294967296) (by rw [e]; omega)
  rw [this, e]; omega
theorem tail_end {a c : Int} (h0 : 0 ≤ tsc a c) : 0 < tsc ((c + 160 * (tails (tsc a c) : Int)) % 4294967296) a := by
  have hn : (tails (tsc a c) : Int) = tsc a c / 160 + 1 := by unfold tails; omega
  have e := tsc_sub a c (tails (tsc a c)) (by rw [hn]; omega)
  have := tsc_neg a ((c + 160 * (tails (tsc a c) : Int)) % 4294967296) (by rw [e, hn]; omega)
  rw [this, e, hn]; omega
theorem tail_none {a c : Int} (h0 : tsc a c < 0) (h1 : tsc a c ≠ -2147483648) : 0 < tsc c a := by rw [tsc_neg a c h1]; omega
theorem tail_le {g : Int} (h0 : 0 ≤ g) (h : g ≤ 10485760) : tails g ≤ 65537 := by unfold tails; omega
theorem tail_two (x l next : Int) (h0 : 0 ≤ tsc x next) (h1 : tsc x next ≤ tsc l next) (h2 : tsc l next ≤ 10485760) : -160 ≤ tsc l ((x + 160) % 4294967296) ∧ tsc l ((x + 160) % 4294967296) ≤ 10485760 := by
  unfold tsc at *; omega
theorem tail_ran {F : Fs} {next sp c last : Int} {f n : Nat} (hG : Good F next sp f n) (hsp : sp = tsc last next) (hs : sp ≤ 10485760) (hs2 : sp ≠ -2147483648) (hf : f ≤ n) (hc : Cur F next f n c) : tsc last c ≠ -2147483648 ∧ tsc last c ≤ 10485760 := by
  rcases hc with ⟨_, rfl⟩ | ⟨hl, rfl⟩
  · subst hsp; omega
  · have := tail_two (F.ts (n - 1)) last next (hG.lo (n - 1) (by omega) (by omega)) (by have := hG.hi (n - 1) (by omega) (by omega); omega) (by omega)
    omega
theorem quo_slots (g : Int) (h : 160 ≤ g) (h2 : g ≤ 10485760) : wrap64 (g.tdiv 160) = (slots g : Int) := by
  rw [Int.tdiv_eq_ediv_of_nonneg (by omega), wrap64_in _ (by omega) (by omega), show slots g = (g / 160).toNat from if_pos h]; omega
theorem quo_tails (g : Int) (h : 0 ≤ g) (h2 : g ≤ 10485760) : wrap64 (wrap64 (g.tdiv 160) + 1) = (tails g : Int) := by
  rw [Int.tdiv_eq_ediv_of_nonneg (by omega), wrap64_in (g / 160) (by omega) (by omega), wrap64_in _ (by omega) (by omega)]; unfold tails; omega
theorem step_next (c : Int) (m : Nat) (h : m ≤ 65537) : (c + wrap64 (160 * (m : Int))) % 4294967296 = (c + 160 * (m : Int)) % 4294967296 := by
  rw [wrap64_in _ (by omega) (by omega)]
theorem pops_add (p s : Nat) (i : Nat) (hi : i ≤ 4096) (hp : p ≤ i * 65537) (hs : s ≤ 65537) : wrap64 ((p : Int) + (s : Int)) = ((p + s : Nat) : Int) := by
  rw [wrap64_in _ (by omega) (by omega)]; omega
theorem pops_add1 (p s : Nat) (i : Nat) (hi : i ≤ 4096) (hp : p ≤ i * 65537) (hs : s ≤ 65537) : wrap64 (wrap64 ((p : Int) + (s : Int)) + 1) = ((p + s + 1 : Nat) : Int) := by
  rw [pops_add p s i hi hp hs, wrap64_in _ (by omega) (by omega)]; omega
end Go.Proofs.Qxb6605266a.Pop
