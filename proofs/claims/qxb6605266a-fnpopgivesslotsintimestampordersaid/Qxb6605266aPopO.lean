import Derived.Test.Qxb6605266aPopP
import Derived.Test.Qxb6605266aOpen
import Derived.WalkKit
import Derived.ProofKit
import Derived.OpenShut
import Derived.Deep.Slices
namespace Go.Proofs.Qxb6605266a.Pop
open Go Go.ChangeShapes Go.WideShapes Go.ChangeAt Go.RowKit
set_option linter.unusedVariables false
set_option maxRecDepth 100000

theorem cells39 : Try.prog.cellsOf 39 = 26 := by kernel_rfl
theorem cells37 : Try.prog.cellsOf 37 = 22 := by kernel_rfl
theorem cells23 : Try.prog.cellsOf 23 = 1 := by kernel_rfl
theorem cells5 : Try.prog.cellsOf 5 = 1 := by kernel_rfl
theorem cells9 : Try.prog.cellsOf 9 = 1 := by kernel_rfl
theorem read35 : Try.prog.readableRec 35 = true := by kernel_rfl
theorem lt35 : 35 < Try.prog.types.size := of_decide_eq_true (by kernel_rfl)

theorem take1 {cs : List Value} {k : Nat} {v : Value} (h : (cs.drop k).take 1 = [v]) : cs[k]? = some v := by
  have := congrArg (fun l => l[0]?) h
  simpa [List.getElem?_take, List.getElem?_drop] using this

/-- one frame -/
abbrev One := Int × Int × Int × ByteArray × (Nat → Int)
def ofOne (x : One) : Fs := ⟨fun _ => x.1, fun _ => x.2.1, fun _ => x.2.2.1, fun _ => x.2.2.2.1, fun _ => x.2.2.2.2⟩
/-- a frame's numbers are of their types -/
def OneRan (x : One) : Prop := 0 ≤ x.1 ∧ x.1 ≤ 4294967295 ∧ 0 ≤ x.2.1 ∧ x.2.1 ≤ 255 ∧ 0 ≤ x.2.2.1 ∧ x.2.2.1 ≤ 255

theorem open_one {H : Type} {enc : TypeId × Value → H} {W : World} {base : Nat} {sp : Nat → Bool} {held : Bool} {m : Nat} {cs : List Value} {x : DataW H × List MemPlace}
    (h : DataW.trod enc Try.prog W base sp held m 39 cs = some x) : ∃ y : One, (∀ k, k < 26 → cs[k]? = some (frCell (ofOne y) 0 k)) ∧ OneRan y := by
  obtain ⟨xs, n, _, _, hl, hlen, hf⟩ := DataW.trod_struct Try.underlying39 h
  have hlen5 : xs.length = 5 := hlen
  have g0 := hf 0 _ rfl
  have g1 := hf 1 _ rfl
  have g2 := hf 2 _ rfl
  have g3 := hf 3 _ rfl
  have g4 := hf 4 _ rfl
  rw [List.getElem?_eq_getElem (by omega)] at g0 g1 g2 g3 g4
  obtain ⟨t, e0, _, w0⟩ := DataW.trod_int Try.underlying23 g0
  obtain ⟨s, e1, _, w1⟩ := DataW.trod_int Try.underlying5 g1
  obtain ⟨z, e2, _, w2⟩ := DataW.trod_int Try.underlying5 g2
  obtain ⟨y, e3, _, _⟩ := DataW.trod_string Try.underlying9 g3
  obtain ⟨xs4, m4, _, _, hl4, hlen4, hi4⟩ := DataW.trod_array Try.underlying37 g4
  have c4 : ∀ i, i < 22 → ∃ q, cs[4 + i]? = some (.int .u8 q) := fun i hi => by
    have h1 := hi4 i hi
    rw [cells5, Nat.mul_one, List.getElem?_eq_getElem (by omega)] at h1
    obtain ⟨q, eq, _, _⟩ := DataW.trod_int Try.underlying5 h1
    have e := take1 eq
    rw [List.getElem?_take] at e
    split at e
    · rw [List.getElem?_drop] at e
      exact ⟨q, e⟩
    · cases e
  obtain ⟨q, hq⟩ := Deep.choose_lt (α := Int) (p := fun i q => cs[4 + i]? = some (.int .u8 q)) c4
  refine ⟨(t, s, z, y, q), fun k hk => ?_, ⟨(bounds_u32 w0).1, (bounds_u32 w0).2, (bounds_u8 w1).1, (bounds_u8 w1).2, (bounds_u8 w2).1, (bounds_u8 w2).2⟩⟩
  unfold frCell ofOne
  by_cases k0 : k = 0
  · subst k0; exact take1 e0
  · rw [if_neg k0]
    by_cases k1 : k = 1
    · subst k1; exact take1 e1
    · rw [if_neg k1]
      by_cases k2 : k = 2
      · subst k2; exact take1 e2
      · rw [if_neg k2]
        by_cases k3 : k = 3
        · subst k3; exact take1 e3
        · rw [if_neg k3]
          have := hq (k - 4) (by omega)
          rw [show 4 + (k - 4) = k by omega] at this
          exact this

theorem open_frames {H : Type} {enc : TypeId × Value → H} {W : World} {r : Reach} {b0 : Nat} {v : Value} {d : DataW H} {p : List MemPlace} (hv : Value.okWide Try.prog W r b0 35 v) (h : DataW.Trod enc Try.prog W 0 (fun _ => true) true 35 v d p) :
    ∃ (A : Option Addr) (n c b o : Nat) (F : Fs), v = .slice A n c ∧ Arg A n b o F W ∧ (n : Int) ≤ 9223372036854775807 ∧ Ran n F := by
  obtain ⟨a0, len, cap, rfl⟩ := okWide_slice Try.underlying35 hv
  obtain ⟨fuel, hf⟩ := h
  rcases Deep.open_slice Try.underlying35 hf with ⟨hcs, hx⟩ | ⟨a, len', cap', m, n, D, Pl, hcs, _, hl, hm, hmm, hx, hi⟩
  · simp [Value.cells] at hcs
    obtain ⟨rfl, rfl, rfl⟩ := hcs
    exact ⟨none, 0, 0, 0, 0, ⟨fun _ => 0, fun _ => 0, fun _ => 0, fun _ => ⟨#[]⟩, fun _ _ => 0⟩, rfl, ⟨fun h => absurd h (by omega), fun i hi => absurd hi (by omega)⟩, by omega, ⟨fun j hj => absurd hj (by omega), fun j hj => absurd hj (by omega), fun j hj => absurd hj (by omega), fun j hj => absurd hj (by omega), fun j hj => absurd hj (by omega), fun j hj => absurd hj (by omega)⟩⟩
  · simp [Value.cells] at hcs
    obtain ⟨rfl, rfl, rfl⟩ := hcs
    simp only [if_true] at hmm
    subst hmm
    have hcell : ∀ i, i < len → ∃ y : One, (∀ k, k < 26 → W.cell? (a.add (i * 26 + k)) = some (frCell (ofOne y) 0 k)) ∧ OneRan y := fun i hil => by
      obtain ⟨cs', h1, h2⟩ := hi i (by omega)
      rw [cells39] at h1
      obtain ⟨_, _, h3⟩ := World.cells?_some h1
      obtain ⟨y, h4, h5⟩ := open_one h2
      refine ⟨y, fun k hk => ?_, h5⟩
      rw [← h4 k hk, ← h3 k hk, Deep.add_add]
    obtain ⟨f, hfc⟩ := Deep.choose_lt (α := One) (p := fun i y => (∀ k, k < 26 → W.cell? (a.add (i * 26 + k)) = some (frCell (ofOne y) 0 k)) ∧ OneRan y) hcell
    obtain ⟨b, o, spot⟩ := a
    have hsp : 0 < len → spot = none := fun h0 => by
      have := (hfc 0 h0).1 0 (by omega)
      simpa [Addr.add] using World.cell?_spot this
    refine ⟨some ⟨b, o, spot⟩, len, _, b, o, ⟨fun i => (f i).1, fun i => (f i).2.1, fun i => (f i).2.2.1, fun i => (f i).2.2.2.1, fun i => (f i).2.2.2.2⟩, rfl, ⟨fun h0 => by rw [hsp h0], fun i hil k hk => ?_⟩, ?_, ?_⟩
    · obtain rfl := hsp (by omega)
      have e := (hfc i hil).1 k hk
      rw [Addr.add_mid, ← Nat.add_assoc] at e
      rw [e]
      rfl
    · have hm2 : _ ≤ 9223372036854775807 := hm
      omega
    · exact ⟨fun j hj => (hfc j hj).2.1, fun j hj => (hfc j hj).2.2.1, fun j hj => (hfc j hj).2.2.2.1, fun j hj => (hfc j hj).2.2.2.2.1, fun j hj => (hfc j hj).2.2.2.2.2.1, fun j hj => (hfc j hj).2.2.2.2.2.2⟩
end Go.Proofs.Qxb6605266a.Pop
