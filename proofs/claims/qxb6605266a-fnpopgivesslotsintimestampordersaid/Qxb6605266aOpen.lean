import Derived.Test.Qxb6605266aRows
import Derived.Test.Qxb6605266aPlain
import Derived.WalkKit
import Derived.ProofKit
import Derived.OpenShut
namespace Go.Proofs.Qxb6605266a.Seq
open Go Go.ChangeShapes Go.WideShapes Go.ChangeAt Go.RowKit
set_option maxRecDepth 100000

theorem cells24 : Try.prog.cellsOf 24 = 128 := by kernel_rfl
theorem cells25 : Try.prog.cellsOf 25 = 128 := by kernel_rfl
theorem one23 : Try.prog.cellsOf 23 = 1 := by kernel_rfl
theorem one4 : Try.prog.cellsOf 4 = 1 := by kernel_rfl

theorem take_one {cs : Array Value} {i n : Nat} (h : i < n) (hn : cs.size = n) : ((cs.toList.drop (i * 1)).take 1) = [cs[i]] := by
  rw [Nat.mul_one, List.drop_eq_getElem_cons (by simpa using (by omega : i < cs.size))]
  simp
/-- the number in a cell -/
def numOf : Value → Int
  | .int _ n => n
  | _ => 0
/-- the truth in a cell -/
def yesOf : Value → Bool
  | .bool b => b
  | _ => false

theorem flat_nil {α β : Type} (xs : List (α × List β)) (h : ∀ x, x ∈ xs → x.2 = []) : xs.flatMap (·.2) = [] := by
  induction xs with
  | nil => rfl
  | cons x xs ih =>
    rw [List.flatMap_cons, h x (by simp), ih (fun y hy => h y (by simp [hy]))]
    rfl

theorem open_ts {H : Type} {enc : TypeId × Value → H} {W : World} {r : Reach} {b0 base : Nat} {sp : Nat → Bool} {held : Bool} {v : Value} {d : DataW H} {p : List MemPlace} (u : Bool)
    (hv : Value.okWide Try.prog W r b0 24 v) (h : DataW.Trod enc Try.prog W base sp held 24 v d p) : ∃ f, v = .agg (tsArr u f) ∧ p = [] := by
  simp only [Value.okWide, Try.underlying24] at hv
  obtain ⟨cs, rfl, hsz, _⟩ := hv
  rw [cells24] at hsz
  obtain ⟨fuel, hf⟩ := h
  obtain ⟨xs, m, _, hx, _, hlen, hi⟩ := DataW.trod_array Try.underlying24 hf
  have hcell : ∀ i (hi' : i < 128), ∃ n, cs[i]'(by omega) = .int .u32 n ∧ xs[i]? = some (.lit (.int .u32 n), []) := fun i hi' => by
    have h1 := hi i hi'
    rw [one23, show (Value.agg cs).cells = cs from rfl, take_one hi' hsz] at h1
    rw [List.getElem?_eq_getElem (by omega)] at h1 ⊢
    obtain ⟨a, ea, hxe, _⟩ := DataW.trod_int Try.underlying23 h1
    exact ⟨a, by simpa using ea, by rw [hxe]⟩
  refine ⟨fun i => numOf ((cs[i]?).getD (.int .u32 0)), ?_, ?_⟩
  · congr 1
    apply Array.ext_getElem?
    intro i
    by_cases h8 : i < 128
    · obtain ⟨n, e, _⟩ := hcell i h8
      rw [tsArr_get u _ i h8, Array.getElem?_eq_getElem (by omega), e]
      simp [numOf]
    · rw [Array.getElem?_eq_none (by omega), Array.getElem?_eq_none (by rw [tsArr_size]; omega)]
  · have e := congrArg Prod.snd hx
    rw [show p = xs.flatMap (·.2) from e]
    refine flat_nil xs fun x hx' => ?_
    obtain ⟨i, hi', rfl⟩ := List.getElem_of_mem hx'
    obtain ⟨n, _, e2⟩ := hcell i (by omega)
    rw [List.getElem?_eq_getElem hi'] at e2
    rw [Option.some.inj e2]

theorem open_tk {H : Type} {enc : TypeId × Value → H} {W : World} {r : Reach} {b0 base : Nat} {sp : Nat → Bool} {held : Bool} {v : Value} {d : DataW H} {p : List MemPlace} (u : Bool)
    (hv : Value.okWide Try.prog W r b0 25 v) (h : DataW.Trod enc Try.prog W base sp held 25 v d p) : ∃ f, v = .agg (tkArr u f) ∧ p = [] := by
  simp only [Value.okWide, Try.underlying25] at hv
  obtain ⟨cs, rfl, hsz, _⟩ := hv
  rw [cells25] at hsz
  obtain ⟨fuel, hf⟩ := h
  obtain ⟨xs, m, _, hx, _, hlen, hi⟩ := DataW.trod_array Try.underlying25 hf
  have hcell : ∀ i (hi' : i < 128), ∃ n, cs[i]'(by omega) = .bool n ∧ xs[i]? = some (.lit (.bool n), []) := fun i hi' => by
    have h1 := hi i hi'
    rw [one4, show (Value.agg cs).cells = cs from rfl, take_one hi' hsz] at h1
    rw [List.getElem?_eq_getElem (by omega)] at h1 ⊢
    obtain ⟨a, ea, hxe⟩ := DataW.trod_bool Try.underlying4 h1
    exact ⟨a, by simpa using ea, by rw [hxe]⟩
  refine ⟨fun i => yesOf ((cs[i]?).getD (.bool false)), ?_, ?_⟩
  · congr 1
    apply Array.ext_getElem?
    intro i
    by_cases h8 : i < 128
    · obtain ⟨n, e, _⟩ := hcell i h8
      rw [tkArr_get u _ i h8, Array.getElem?_eq_getElem (by omega), e]
      simp [yesOf]
    · rw [Array.getElem?_eq_none (by omega), Array.getElem?_eq_none (by rw [tkArr_size]; omega)]
  · have e := congrArg Prod.snd hx
    rw [show p = xs.flatMap (·.2) from e]
    refine flat_nil xs fun x hx' => ?_
    obtain ⟨i, hi', rfl⟩ := List.getElem_of_mem hx'
    obtain ⟨n, _, e2⟩ := hcell i (by omega)
    rw [List.getElem?_eq_getElem hi'] at e2
    rw [Option.some.inj e2]

theorem laid : laidOutB Try.prog = true := by kernel_rfl
theorem read24 : Try.prog.readableRec 24 = true := by kernel_rfl
theorem read25 : Try.prog.readableRec 25 = true := by kernel_rfl
theorem lt25 : 25 < Try.prog.types.size := of_decide_eq_true (by kernel_rfl)
theorem lt24 : 24 < Try.prog.types.size := of_decide_eq_true (by kernel_rfl)
end Go.Proofs.Qxb6605266a.Seq
