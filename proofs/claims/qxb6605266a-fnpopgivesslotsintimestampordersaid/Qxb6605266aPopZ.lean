import Derived.Test.Qxb6605266aPopB
namespace Go.Proofs.Qxb6605266a.Pop
open Go Go.RowKit
open Go.Proofs.Qxb6605266a.Seq (blk)
set_option linter.unusedVariables false
set_option maxRecDepth 100000

/-- the slice that came in: n frames from cell o of block b -/
structure Arg (A : Option Addr) (n b o : Nat) (F : Fs) (w : World) : Prop where
  hA : 0 < n → A = some ⟨b, o, none⟩
  fr : ∀ i, i < n → ∀ k, k < 26 → w.cell? ⟨b, o + i * 26 + k, none⟩ = some (frCell F i k)
theorem Arg.c0 {A n b o F w} (h : Arg A n b o F w) (i : Nat) (hi : i < n) : w.cell? ⟨b, o + i * 26, none⟩ = some (.int .u32 (F.ts i)) := h.fr i hi 0 (by omega)
theorem Arg.c1 {A n b o F w} (h : Arg A n b o F w) (i : Nat) (hi : i < n) : w.cell? ⟨b, o + i * 26 + 1, none⟩ = some (.int .u8 (F.st i)) := h.fr i hi 1 (by omega)
theorem Arg.c2 {A n b o F w} (h : Arg A n b o F w) (i : Nat) (hi : i < n) : w.cell? ⟨b, o + i * 26 + 2, none⟩ = some (.int .u8 (F.sz i)) := h.fr i hi 2 (by omega)
theorem Arg.c3 {A n b o F w} (h : Arg A n b o F w) (i : Nat) (hi : i < n) : w.cell? ⟨b, o + i * 26 + 3, none⟩ = some (.string (F.ty i)) := h.fr i hi 3 (by omega)

set_option maxHeartbeats 1000000 in
theorem zzbytes_any (A : Option Addr) (n c b o : Nat) (F : Fs) (w : World) (hF : Arg A n b o F w) (hn : (n : Int) ≤ 9223372036854775807) (first next last : Int) (taken started : Bool) (empty : ByteArray) (out eo : Int) :
    Calls Try.prog 10 #[.slice A n c, .int .i64 first, .int .u32 next, .int .u32 last, .bool taken, .bool started, .string empty, .int .i64 out, .int .i64 eo] w fun e w' => (∃ r, e = .returned (.bool r)) ∧ w' = w := by
  by_cases h1 : (1048576 : Int) < n
  · go_enter Try.func10, Try.ntmps10
    go_wp2
    go_ret
    exact ⟨⟨_, rfl⟩, rfl⟩
  · go_enter Try.func10, Try.ntmps10
    go_wp2
    go_loopw [19, 20] (fun z x wr => ∃ (s : Int) (k : Nat), k ≤ n ∧ z = .int .i64 s ∧ x = .int .i64 k ∧ wr = w) (fun _ x _ => n - (intOf x).toNat)
    case atStart => exact ⟨_, 0, by omega, rfl, rfl, rfl⟩
    case round =>
      obtain ⟨s, k, hk, rfl, rfl, rfl⟩ := hrel
      by_cases hlt : k < n
      · obtain rfl := hF.hA (by omega)
        have i0 : (0 : Int) ≤ (k : Int) := by omega
        have i1 : (k : Int) < n := by omega
        have hc := hF.c3 k hlt
        go_wp2
        all_goals first
          | (go_ret; exact ⟨⟨_, rfl⟩, rfl⟩)
          | (go_roundw
             case rel => exact ⟨_, k + 1, by omega, rfl, by go_num, by trivial⟩
             case measure => simp [intOf]; omega)
      · have hk2 : k = n := by omega
        subst hk2
        go_wp2
        all_goals (go_ret; exact ⟨⟨_, rfl⟩, rfl⟩)
end Go.Proofs.Qxb6605266a.Pop
