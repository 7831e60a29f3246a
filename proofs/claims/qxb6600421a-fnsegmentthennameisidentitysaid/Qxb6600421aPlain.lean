/-
  SEAT b6600421a: THE PLAIN FUNCTIONS: what Segment, Name, isSegment and the laws' own helpers compute, on lists of bytes. No Go in sight.
-/
namespace Go.Proofs.Qxb6600421a

/-- 'kept' on a number. -/
def keptI (n : Int) : Bool :=
  (decide (97 ≤ n) && decide (n ≤ 122)) || (decide (65 ≤ n) && decide (n ≤ 90)) || (decide (48 ≤ n) && decide (n ≤ 57)) || n == 45 || n == 46 || n == 95 || n == 126

/-- 'kept' on a byte. -/
def keptB (c : UInt8) : Bool := keptI (c.toNat : Int)

/-- The upper-case hexadecimal digit of d (d < 16). -/
def hexD (d : Nat) : UInt8 := if d < 10 then (48 + d).toUInt8 else (55 + d).toUInt8

/-- The value of an upper-case hexadecimal digit, or -1. -/
def hexV (c : UInt8) : Int := if 48 ≤ c.toNat ∧ c.toNat ≤ 57 then (c.toNat : Int) - 48 else if 65 ≤ c.toNat ∧ c.toNat ≤ 70 then (c.toNat : Int) - 55 else -1

/-- The byte that two digits write. -/
def hexB (h l : UInt8) : UInt8 := ((hexV h).toNat * 16 + (hexV l).toNat).toUInt8

def segC (c : UInt8) : List UInt8 := if keptB c then [c] else [37, hexD (c.toNat / 16), hexD (c.toNat % 16)]

def segL (l : List UInt8) : List UInt8 := l.flatMap segC

def escs (l : List UInt8) : Nat := (l.filter fun c => !keptB c).length

/-- zzWellFormed. -/
def wfL : List UInt8 → Bool
  | [] => true
  | c :: r => if c == 37 then (match r with | h :: l :: r' => decide (0 ≤ hexV h) && decide (0 ≤ hexV l) && wfL r' | _ => false) else wfL r

/-- Name, on what is well formed. -/
def nameL : List UInt8 → List UInt8
  | [] => []
  | c :: r => if c == 37 then (match r with | h :: l :: r' => hexB h l :: nameL r' | _ => []) else c :: nameL r

/-- The loop of isSegment. -/
def isL : List UInt8 → Bool
  | [] => true
  | c :: r => if keptB c then isL r else if c == 37 then (match r with | h :: l :: r' => decide (0 ≤ hexV h) && decide (0 ≤ hexV l) && !keptB (hexB h l) && (hexB h l != 47 && hexB h l != 0) && isL r' | _ => false) else false

def isSeg (l : List UInt8) : Bool := l != [] && l != [46] && isL l

def noSN (l : List UInt8) : Bool := l.all fun c => c != 47 && c != 0

/-- zzEncodedAs, loose. -/
def encL : List UInt8 → List UInt8 → Bool
  | [], e => e == []
  | c :: r, e => match e with
    | [] => false
    | x :: e1 => if x != 37 then (x == c && encL r e1) else (match e1 with | h :: l :: e2 => h == hexD (c.toNat / 16) && l == hexD (c.toNat % 16) && encL r e2 | _ => false)

end Go.Proofs.Qxb6600421a
