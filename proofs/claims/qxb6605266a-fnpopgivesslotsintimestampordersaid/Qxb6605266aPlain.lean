import GoSem.Core.Value
namespace Go.Proofs.Qxb6605266a.Seq
open Go

/-- the state of a window, plain: what take reads and writes -/
structure St where
  highest : Int
  restart : Int
  started : Bool
  base : Int
  cycles : Int
  recv : Int
  ep : Int
  rp : Int
  ts : Nat → Int
  tk : Nat → Bool

/-- the eight scalar cells -/
def head (s : St) (i : Nat) : Value :=
  if i = 0 then .int .u16 s.highest
  else if i = 1 then .int .u32 s.restart
  else if i = 2 then .bool s.started
  else if i = 3 then .int .u16 s.base
  else if i = 4 then .int .u32 s.cycles
  else if i = 5 then .int .i64 s.recv
  else if i = 6 then .int .i64 s.ep
  else .int .i64 s.rp
/-- the fields that take never touches, all zero -/
def tail (i : Nat) : Value :=
  if i = 266 ∨ i = 272 then .int .u16 0
  else if i = 264 ∨ i = 267 ∨ i = 269 ∨ i = 271 then .int .u32 0
  else .bool false
/-- cell i of a ZZSeqState -/
def stCell (s : St) (i : Nat) : Value :=
  if i < 8 then head s i else if i < 136 then .int .u32 (s.ts (i - 8)) else .bool (s.tk (i - 136))
/-- cell i of a seqWindow whose other fields are zero -/
def winCell (s : St) (i : Nat) : Value :=
  if i < 8 then head s i
  else if i < 264 then (if i % 2 = 0 then .int .u32 (s.ts ((i - 8) / 2)) else .bool (s.tk ((i - 8) / 2)))
  else tail i
/-- the arrays, each behind a key u that stays a letter: so that no tactic lays their cells out -/
def stArr (u : Bool) (s : St) : Array Value := match u with
  | true => Array.ofFn (n := 264) fun i => stCell s i.val
  | false => Array.ofFn (n := 264) fun i => stCell s i.val
def winArr (u : Bool) (s : St) : Array Value := match u with
  | true => Array.ofFn (n := 275) fun i => winCell s i.val
  | false => Array.ofFn (n := 275) fun i => winCell s i.val
def tsArr (u : Bool) (f : Nat → Int) : Array Value := match u with
  | true => Array.ofFn (n := 128) fun i => .int .u32 (f i.val)
  | false => Array.ofFn (n := 128) fun i => .int .u32 (f i.val)
def tkArr (u : Bool) (f : Nat → Bool) : Array Value := match u with
  | true => Array.ofFn (n := 128) fun i => .bool (f i.val)
  | false => Array.ofFn (n := 128) fun i => .bool (f i.val)

theorem stArr_size (u : Bool) (s : St) : (stArr u s).size = 264 := by cases u <;> exact Array.size_ofFn
theorem winArr_size (u : Bool) (s : St) : (winArr u s).size = 275 := by cases u <;> exact Array.size_ofFn
theorem tsArr_size (u : Bool) (f : Nat → Int) : (tsArr u f).size = 128 := by cases u <;> exact Array.size_ofFn
theorem tkArr_size (u : Bool) (f : Nat → Bool) : (tkArr u f).size = 128 := by cases u <;> exact Array.size_ofFn

theorem stArr_get (u : Bool) (s : St) (i : Nat) (h : i < 264) : (stArr u s)[i]? = some (stCell s i) := by
  cases u <;> simp [stArr, h]
theorem winArr_get (u : Bool) (s : St) (i : Nat) (h : i < 275) : (winArr u s)[i]? = some (winCell s i) := by
  cases u <;> simp [winArr, h]
theorem tsArr_get (u : Bool) (f : Nat → Int) (i : Nat) (h : i < 128) : (tsArr u f)[i]? = some (.int .u32 (f i)) := by
  cases u <;> simp [tsArr, h]
theorem tkArr_get (u : Bool) (f : Nat → Bool) (i : Nat) (h : i < 128) : (tkArr u f)[i]? = some (.bool (f i)) := by
  cases u <;> simp [tkArr, h]

end Go.Proofs.Qxb6605266a.Seq
