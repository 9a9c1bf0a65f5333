import Derived.Test.Qxb6605266aTakeB
namespace Go.Proofs.Qxb6605266a.Seq
open Go Go.RowKit
set_option linter.unusedVariables false
set_option maxRecDepth 100000

theorem win_of {u : Bool} {s0 : St} {w : World} {g : Nat} (hg : blk w g 58 (winArr u s0)) : Win w g (fun s => w.setRow g (winArr u s)) where
  c0 := fun s => by rw [(hg.row _).cell]; exact win_get0 u s
  c1 := fun s => by rw [(hg.row _).cell]; exact win_get1 u s
  c2 := fun s => by rw [(hg.row _).cell]; exact win_get2 u s
  c3 := fun s => by rw [(hg.row _).cell]; exact win_get3 u s
  c4 := fun s => by rw [(hg.row _).cell]; exact win_get4 u s
  c5 := fun s => by rw [(hg.row _).cell]; exact win_get5 u s
  c6 := fun s => by rw [(hg.row _).cell]; exact win_get6 u s
  c7 := fun s => by rw [(hg.row _).cell]; exact win_get7 u s
  ct := fun s j h => by rw [(hg.row _).cell]; exact win_getTs u s j h
  ck := fun s j h => by rw [(hg.row _).cell]; exact win_getTk u s j h
  fz := fun s j => (hg.row _).frozen j
  s0 := fun s x => by rw [setCell_setRow, win_set0]
  s1 := fun s x => by rw [setCell_setRow, win_set1]
  s2 := fun s x => by rw [setCell_setRow, win_set2]
  s3 := fun s x => by rw [setCell_setRow, win_set3]
  s4 := fun s x => by rw [setCell_setRow, win_set4]
  s5 := fun s x => by rw [setCell_setRow, win_set5]
  s6 := fun s x => by rw [setCell_setRow, win_set6]
  s7 := fun s x => by rw [setCell_setRow, win_set7]
  st := fun s j x h => by rw [setCell_setRow, win_setTs u s j x h]
  sk := fun s j x h => by rw [setCell_setRow, win_setTk u s j x h]

/-- how far seq lies after the highest on the circle -/
def dd (s : St) (seq : Int) : Int := (seq - s.highest) % 65536
/-- what take answers and leaves -/
def takeR (s : St) (seq ts : Int) : Bool × Bool × St :=
  if s.started = false then (true, true, fresh s seq ts (seq % 128).toNat)
  else if 1 ≤ dd s seq ∧ dd s seq < 3000 then (true, true, fin (clr (if seq < s.highest then turn s else s) seq (dd s seq) 0) seq ts (seq % 128).toNat)
  else if dd s seq = 0 ∨ 65436 < dd s seq then
    (if s.tk (seq % 128).toNat = true ∧ s.ts (seq % 128).toNat ≠ ts then (false, false, noRe s) else (seq == s.highest, true, again s ts (seq % 128).toNat))
  else (false, false, s)

theorem st_on (s : St) (h : s.started = true) : { s with started := true } = s := by cases s; cases h; rfl
theorem back_lt (seq : Int) (j : Nat) : back seq j < 128 := by unfold back; omega
theorem clr_cap (s : St) (seq m d : Int) (h : m = d ∨ (m = 128 ∧ 128 ≤ d)) : clr s seq m 0 = clr s seq d 0 := by
  rcases h with h | ⟨h, k⟩
  · rw [h]
  · subst h
    have e : ∀ j, (j < 128 ∧ 0 < back seq j ∧ back seq j < 128) ↔ (j < 128 ∧ 0 < back seq j ∧ back seq j < d) := fun j => by
      have := back_lt seq j
      omega
    unfold clr
    simp only [e]
theorem wrap_dd (s : St) (seq : Int) : IntKind.u16.wrap (seq - s.highest) = dd s seq := IntKind.wrap_u16 _

theorem take_all (s : St) (seq ts : Int) (g : Nat) (w : World) (R : St → World) (hR : Win w g R) (q0 : 0 ≤ seq) (q1 : seq ≤ 65535) (p0 : 0 ≤ s.highest) (p1 : s.highest ≤ 65535) :
    Calls Try.prog 16 #[.pointer (some ⟨g, 0, none⟩), .int .u16 seq, .int .u32 ts] (R s) fun e w' => e = .returned (.tuple #[.bool (takeR s seq ts).1, .bool (takeR s seq ts).2.1]) ∧ w' = R (takeR s seq ts).2.2 := by
  have hdd : 0 ≤ dd s seq ∧ dd s seq < 65536 := by unfold dd; omega
  unfold takeR
  by_cases hs : s.started = false
  · rw [if_pos hs]
    exact take_fresh s seq ts g w R hR hs q0 q1
  · have hs' : s.started = true := by simpa using hs
    rw [if_neg hs]
    by_cases ho : 1 ≤ dd s seq ∧ dd s seq < 3000
    · rw [if_pos ho]
      have hd : IntKind.u16.wrap (IntKind.u16.wrap (seq - s.highest) - 1) < 2999 := by rw [wrap_dd, IntKind.wrap_u16]; omega
      by_cases h1 : 1 < dd s seq
      · have h1' : 1 < IntKind.u16.wrap (seq - s.highest) := by rw [wrap_dd]; exact h1
        have hc : mn (dd s seq) 128 = dd s seq ∨ (mn (dd s seq) 128 = 128 ∧ 128 ≤ dd s seq) := by unfold mn; split <;> omega
        have hm1 : mn (dd s seq) 128 ≤ 128 := by unfold mn; split <;> omega
        have h := take_skip s seq ts (mn (dd s seq) 128) g w R hR q0 q1 p0 p1 (by show mn _ _ = _; rw [wrap_dd]) (by omega) (by omega) hd h1'
        rw [clr_cap _ seq _ _ hc, st_on s hs'] at h
        exact h
      · have h1' : ¬ 1 < IntKind.u16.wrap (seq - s.highest) := by rw [wrap_dd]; exact h1
        have h := take_next s seq ts g w R hR q0 q1 hd h1'
        have e1 : dd s seq = 1 := by omega
        have e2 : clr (if seq < s.highest then turn s else s) seq 1 0 = (if seq < s.highest then turn s else s) := clr_none _ seq 1
        rw [st_on s hs'] at h
        rw [e1, e2]
        exact h
    · rw [if_neg ho]
      have hd : ¬ IntKind.u16.wrap (IntKind.u16.wrap (seq - s.highest) - 1) < 2999 := by rw [wrap_dd, IntKind.wrap_u16]; omega
      by_cases hb : dd s seq = 0 ∨ 65436 < dd s seq
      · rw [if_pos hb]
        have h1 : IntKind.u16.wrap (-IntKind.u16.wrap (seq - s.highest)) < 100 := by rw [wrap_dd, IntKind.wrap_u16]; omega
        by_cases hc : s.tk (seq % 128).toNat = true ∧ s.ts (seq % 128).toNat ≠ ts
        · rw [if_pos hc]
          have h := take_clash s seq ts g w R hR q0 q1 hd h1 hc.1 hc.2
          rw [st_on s hs'] at h
          exact h
        · rw [if_neg hc]
          have hok : s.tk (seq % 128).toNat = false ∨ s.ts (seq % 128).toNat = ts := by
            by_cases k : s.tk (seq % 128).toNat = true
            · right
              exact Classical.byContradiction fun n => hc ⟨k, n⟩
            · left
              simpa using k
          have h := take_back s seq ts g w R hR q0 q1 hd h1 hok
          rw [st_on s hs'] at h
          exact h
      · rw [if_neg hb]
        have h1 : ¬ IntKind.u16.wrap (-IntKind.u16.wrap (seq - s.highest)) < 100 := by rw [wrap_dd, IntKind.wrap_u16]; omega
        have h := take_out s seq ts g w R hR q0 q1 hd h1
        rw [st_on s hs'] at h
        exact h

set_option maxHeartbeats 400000 in
theorem zztake_of (seq ts : Int) (g : Nat) (w w1 : World) (a b : Bool)
    (h : Hid (Calls Try.prog 16 #[.pointer (some ⟨g, 0, none⟩), .int .u16 seq, .int .u32 ts] w fun e w' => e = .returned (.tuple #[.bool a, .bool b]) ∧ w' = w1)) :
    Calls Try.prog 7 #[.pointer (some ⟨g, 0, none⟩), .int .u16 seq, .int .u32 ts] w fun e w' => e = .returned (.tuple #[.bool a, .bool b]) ∧ w' = w1 := by
  go_enter Try.func7, Try.ntmps7
  go_wp2_with fail
  refine h.out.mono ?_
  rintro e w' ⟨rfl, rfl⟩
  go_wp2
  go_ret2
  exact ⟨rfl, rfl⟩

/-- ZZTake at a window that lies in block g -/
theorem zztake_any (u : Bool) (s : St) (seq ts : Int) (g : Nat) (w : World) (hg : blk w g 58 (winArr u s)) (q0 : 0 ≤ seq) (q1 : seq ≤ 65535) (p0 : 0 ≤ s.highest) (p1 : s.highest ≤ 65535) :
    Calls Try.prog 7 #[.pointer (some ⟨g, 0, none⟩), .int .u16 seq, .int .u32 ts] w fun e w' => e = .returned (.tuple #[.bool (takeR s seq ts).1, .bool (takeR s seq ts).2.1]) ∧ w' = w.setRow g (winArr u (takeR s seq ts).2.2) := by
  have h := take_all s seq ts g w _ (win_of hg) q0 q1 p0 p1
  simp only [hg.self] at h
  exact zztake_of seq ts g w _ _ _ h

theorem ret_int {k : IntKind} {a b : Int} (h : a = b) : Ending.returned (.int k a) = .returned (.int k b) := by rw [h]
set_option maxHeartbeats 400000 in
theorem fwd_any (seq hi : Int) (w : World) (q0 : 0 ≤ seq) (q1 : seq ≤ 65535) (p0 : 0 ≤ hi) (p1 : hi ≤ 65535) :
    Calls Try.prog 9 #[.int .u16 seq, .int .u16 hi] w fun e w' => e = .returned (.int .i64 ((seq - hi) % 65536)) ∧ w' = w := by
  go_enter Try.func9, Try.ntmps9
  go_wp2
  go_ret
  exact ⟨ret_int (by omega), rfl⟩
end Go.Proofs.Qxb6605266a.Seq
