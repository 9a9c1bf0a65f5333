import Derived.Test.Qxb6605266aTake
namespace Go.Proofs.Qxb6605266a.Seq
open Go Go.RowKit
set_option linter.unusedVariables false
set_option maxRecDepth 100000

/-- the end of an accepted packet that becomes the highest -/
def fin (s : St) (seq ts : Int) (j : Nat) : St := { s with highest := seq, restart := 65536, ts := upd s.ts j ts, tk := upd s.tk j true, recv := wrap64 (s.recv + 1) }
/-- the first packet -/
def fresh (s : St) (seq ts : Int) (j : Nat) : St := { s with highest := seq, restart := 65536, started := true, base := seq, cycles := 0, recv := 1, ep := 0, rp := 0, ts := upd s.ts j ts, tk := upd s.tk j true }
/-- a copy, or a packet reordered, that is taken -/
def again (s : St) (ts : Int) (j : Nat) : St := { s with restart := 65536, ts := upd s.ts j ts, tk := upd s.tk j true, recv := wrap64 (s.recv + 1) }
/-- the cycles counted on -/
def turn (s : St) : St := { s with cycles := (s.cycles + 1) % 4294967296 }
def noRe (s : St) : St := { s with restart := 65536 }

set_option maxHeartbeats 1000000 in
theorem take_fresh (s : St) (seq ts : Int) (g : Nat) (w : World) (R : St → World) (hR : Win w g R) (hs : s.started = false) (q0 : 0 ≤ seq) (q1 : seq ≤ 65535) :
    Calls Try.prog 16 #[.pointer (some ⟨g, 0, none⟩), .int .u16 seq, .int .u32 ts] (R s) fun e w' => e = .returned (.tuple #[.bool true, .bool true]) ∧ w' = R (fresh s seq ts (seq % 128).toNat) := by
  have st' := fun t x => hR.st t (seq % 128).toNat x (by omega)
  have sk' := fun t x => hR.sk t (seq % 128).toNat x (by omega)
  have ct' := fun t => hR.ct t (seq % 128).toNat (by omega)
  have ck' := fun t => hR.ck t (seq % 128).toNat (by omega)
  obtain ⟨c0, c1, c2, c3, c4, c5, c6, c7, ct, ck, fz, s0, s1, s2, s3, s4, s5, s6, s7, st, sk⟩ := hR
  clear ct ck st sk
  by_cases hd : IntKind.u16.wrap (IntKind.u16.wrap (seq - s.highest) - 1) < 2999
  · go_enter Try.func16, Try.ntmps16
    go_wp2
    go_ret2
    exact ⟨rfl, rfl⟩
  · go_enter Try.func16, Try.ntmps16
    go_wp2
    go_ret2
    exact ⟨rfl, rfl⟩

-- in order, no number between
set_option maxHeartbeats 1000000 in
theorem take_next (s : St) (seq ts : Int) (g : Nat) (w : World) (R : St → World) (hR : Win w g R) (q0 : 0 ≤ seq) (q1 : seq ≤ 65535)
    (hd : IntKind.u16.wrap (IntKind.u16.wrap (seq - s.highest) - 1) < 2999) (h1 : ¬ 1 < IntKind.u16.wrap (seq - s.highest)) :
    Calls Try.prog 16 #[.pointer (some ⟨g, 0, none⟩), .int .u16 seq, .int .u32 ts] (R { s with started := true }) fun e w' => e = .returned (.tuple #[.bool true, .bool true]) ∧ w' = R (fin (if seq < s.highest then turn { s with started := true } else { s with started := true }) seq ts (seq % 128).toNat) := by
  have st' := fun t x => hR.st t (seq % 128).toNat x (by omega)
  have sk' := fun t x => hR.sk t (seq % 128).toNat x (by omega)
  have ct' := fun t => hR.ct t (seq % 128).toNat (by omega)
  have ck' := fun t => hR.ck t (seq % 128).toNat (by omega)
  obtain ⟨c0, c1, c2, c3, c4, c5, c6, c7, ct, ck, fz, s0, s1, s2, s3, s4, s5, s6, s7, st, sk⟩ := hR
  clear ct ck st sk
  by_cases hw : seq < s.highest
  · rw [if_pos hw]
    go_enter Try.func16, Try.ntmps16
    go_wp2
    go_ret2
    exact ⟨rfl, rfl⟩
  · rw [if_neg hw]
    go_enter Try.func16, Try.ntmps16
    go_wp2
    go_ret2
    exact ⟨rfl, rfl⟩

-- in order, numbers between
set_option maxHeartbeats 1000000 in
theorem take_skip (s : St) (seq ts m : Int) (g : Nat) (w : World) (R : St → World) (hR : Win w g R) (q0 : 0 ≤ seq) (q1 : seq ≤ 65535) (p0 : 0 ≤ s.highest) (p1 : s.highest ≤ 65535)
    (hm : Hid (mn (IntKind.u16.wrap (seq - s.highest)) 128 = m)) (m0 : 1 ≤ m) (m1 : m ≤ 128)
    (hd : IntKind.u16.wrap (IntKind.u16.wrap (seq - s.highest) - 1) < 2999) (h1 : 1 < IntKind.u16.wrap (seq - s.highest)) :
    Calls Try.prog 16 #[.pointer (some ⟨g, 0, none⟩), .int .u16 seq, .int .u32 ts] (R { s with started := true }) fun e w' => e = .returned (.tuple #[.bool true, .bool true]) ∧ w' = R (fin (clr (if seq < s.highest then turn { s with started := true } else { s with started := true }) seq m 0) seq ts (seq % 128).toNat) := by
  have st' := fun t x => hR.st t (seq % 128).toNat x (by omega)
  have sk' := fun t x => hR.sk t (seq % 128).toNat x (by omega)
  have ct' := fun t => hR.ct t (seq % 128).toNat (by omega)
  have ck' := fun t => hR.ck t (seq % 128).toNat (by omega)
  have hR' : Hid (Win w g R) := hR
  have hP : Hid (0 ≤ s.highest ∧ s.highest ≤ 65535) := ⟨p0, p1⟩
  clear p0 p1
  obtain ⟨c0, c1, c2, c3, c4, c5, c6, c7, ct, ck, fz, s0, s1, s2, s3, s4, s5, s6, s7, st, sk⟩ := hR
  clear ct ck st sk
  by_cases hw : seq < s.highest
  · rw [if_pos hw]
    go_enter Try.func16, Try.ntmps16
    go_wp2_with fail
    refine (forget_any (turn { s with started := true }) seq m g w R hR'.out q0 q1 hP.out.1 hP.out.2 hm.out m0 m1).mono ?_
    rintro e w' ⟨rfl, rfl⟩
    go_wp2
    go_ret2
    exact ⟨rfl, rfl⟩
  · rw [if_neg hw]
    go_enter Try.func16, Try.ntmps16
    go_wp2_with fail
    refine (forget_any { s with started := true } seq m g w R hR'.out q0 q1 hP.out.1 hP.out.2 hm.out m0 m1).mono ?_
    rintro e w' ⟨rfl, rfl⟩
    generalize hC : clr { s with started := true } seq m 0 = C
    have HC : Hid (clr { s with started := true } seq m 0 = C) := hC
    clear hC
    go_wp2
    go_ret2
    exact ⟨rfl, by rw [HC.out]; rfl⟩

-- a copy, or a packet reordered
set_option maxHeartbeats 1000000 in
theorem take_back (s : St) (seq ts : Int) (g : Nat) (w : World) (R : St → World) (hR : Win w g R) (q0 : 0 ≤ seq) (q1 : seq ≤ 65535)
    (hd : ¬ IntKind.u16.wrap (IntKind.u16.wrap (seq - s.highest) - 1) < 2999) (h1 : IntKind.u16.wrap (-IntKind.u16.wrap (seq - s.highest)) < 100)
    (hok : s.tk (seq % 128).toNat = false ∨ s.ts (seq % 128).toNat = ts) :
    Calls Try.prog 16 #[.pointer (some ⟨g, 0, none⟩), .int .u16 seq, .int .u32 ts] (R { s with started := true }) fun e w' => e = .returned (.tuple #[.bool (seq == s.highest), .bool true]) ∧ w' = R (again { s with started := true } ts (seq % 128).toNat) := by
  have st' := fun t x => hR.st t (seq % 128).toNat x (by omega)
  have sk' := fun t x => hR.sk t (seq % 128).toNat x (by omega)
  have ct' := fun t => hR.ct t (seq % 128).toNat (by omega)
  have ck' := fun t => hR.ck t (seq % 128).toNat (by omega)
  obtain ⟨c0, c1, c2, c3, c4, c5, c6, c7, ct, ck, fz, s0, s1, s2, s3, s4, s5, s6, s7, st, sk⟩ := hR
  clear ct ck st sk
  by_cases hk : s.tk (seq % 128).toNat = false
  · clear hok
    go_enter Try.func16, Try.ntmps16
    go_wp2
    go_ret2
    exact ⟨rfl, rfl⟩
  · have hk' : s.tk (seq % 128).toNat = true := by simpa using hk
    have ht : (s.ts (seq % 128).toNat != ts) = false := by
      rcases hok with h | h
      · exact absurd h hk
      · simp [h]
    clear hok hk
    go_enter Try.func16, Try.ntmps16
    go_wp2
    go_ret2
    exact ⟨rfl, rfl⟩

-- another packet of a number that is taken
set_option maxHeartbeats 1000000 in
theorem take_clash (s : St) (seq ts : Int) (g : Nat) (w : World) (R : St → World) (hR : Win w g R) (q0 : 0 ≤ seq) (q1 : seq ≤ 65535)
    (hd : ¬ IntKind.u16.wrap (IntKind.u16.wrap (seq - s.highest) - 1) < 2999) (h1 : IntKind.u16.wrap (-IntKind.u16.wrap (seq - s.highest)) < 100)
    (hk : s.tk (seq % 128).toNat = true) (hne : s.ts (seq % 128).toNat ≠ ts) :
    Calls Try.prog 16 #[.pointer (some ⟨g, 0, none⟩), .int .u16 seq, .int .u32 ts] (R { s with started := true }) fun e w' => e = .returned (.tuple #[.bool false, .bool false]) ∧ w' = R (noRe { s with started := true }) := by
  have st' := fun t x => hR.st t (seq % 128).toNat x (by omega)
  have sk' := fun t x => hR.sk t (seq % 128).toNat x (by omega)
  have ct' := fun t => hR.ct t (seq % 128).toNat (by omega)
  have ck' := fun t => hR.ck t (seq % 128).toNat (by omega)
  obtain ⟨c0, c1, c2, c3, c4, c5, c6, c7, ct, ck, fz, s0, s1, s2, s3, s4, s5, s6, s7, st, sk⟩ := hR
  clear ct ck st sk
  have ht : (s.ts (seq % 128).toNat != ts) = true := by simpa using hne
  clear hne
  go_enter Try.func16, Try.ntmps16
  go_wp2
  go_ret2
  exact ⟨rfl, rfl⟩

-- out of sequence
set_option maxHeartbeats 1000000 in
theorem take_out (s : St) (seq ts : Int) (g : Nat) (w : World) (R : St → World) (hR : Win w g R) (q0 : 0 ≤ seq) (q1 : seq ≤ 65535)
    (hd : ¬ IntKind.u16.wrap (IntKind.u16.wrap (seq - s.highest) - 1) < 2999) (h1 : ¬ IntKind.u16.wrap (-IntKind.u16.wrap (seq - s.highest)) < 100) :
    Calls Try.prog 16 #[.pointer (some ⟨g, 0, none⟩), .int .u16 seq, .int .u32 ts] (R { s with started := true }) fun e w' => e = .returned (.tuple #[.bool false, .bool false]) ∧ w' = R { s with started := true } := by
  obtain ⟨c0, c1, c2, c3, c4, c5, c6, c7, ct, ck, fz, s0, s1, s2, s3, s4, s5, s6, s7, st, sk⟩ := hR
  clear ct ck st sk
  go_enter Try.func16, Try.ntmps16
  go_wp2
  go_ret2
  exact ⟨rfl, rfl⟩

end Go.Proofs.Qxb6605266a.Seq
