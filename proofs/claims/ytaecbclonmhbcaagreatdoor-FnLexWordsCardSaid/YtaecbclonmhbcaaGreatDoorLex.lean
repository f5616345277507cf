/- The lexer as plain functions on lists of bytes (numbers). No program, no memory. -/
namespace Go.Proofs.YtaecbclonmhbcaaGreatDoor

/-- The kind of error that the lexer holds. -/
inductive Er where
  | nil | eof | other | lex (off : Nat)

def Er.isNil : Er → Bool
  | .nil => true
  | _ => false
/-- What impl.kind tells of it. -/
def Er.num : Er → Int
  | .nil => 0
  | .eof => 1
  | _ => 2

structure Lx where
  d : List Int
  start : Nat
  pos : Nat
  kind : Nat
  bv : Bool
  cl : Bool
  tok : List Int
  delim : Int
  fst : Bool
  sep : Int
  multi : Bool
  err : Er
  errs : List Nat

namespace Lx
def ok (x : Lx) : Bool := x.err.isNil
/-- errParse: the first error stays. -/
def fail (x : Lx) : Lx := if x.ok then { x with err := .lex x.pos } else x
def consume (x : Lx) : Lx := { x with kind := 0, cl := false, delim := 0 }
end Lx

def isBl (c : Int) : Bool := c == 32 || c == 9 || c == 13 || c == 10
def isEndB (c : Int) : Bool := isBl c || c == 91 || c == 93 || c == 123 || c == 125 || c == 44 || c == 58
def isDig (c : Int) : Bool := decide (48 ≤ c) && decide (c ≤ 57)

def headEnd : List Int → Bool
  | [] => true
  | c :: _ => isEndB c
/-- Do the bytes behind place p (a word's first byte) go on as ws, with the end or an end sign behind? -/
def wordAt (d : List Int) (p : Nat) (ws : List Int) : Bool :=
  (d.drop (p + 1)).take ws.length == ws && headEnd (d.drop (p + 1 + ws.length))

namespace Lx
def word (x : Lx) (ws : List Int) : Lx := if wordAt x.d x.pos ws then { x with pos := x.pos + 1 + ws.length } else x.fail
end Lx

/-- How far a number goes, and the sign that ended it. -/
def numScan : List Int → Bool → Bool → Bool → Nat × Option Int
  | [], _, _, _ => (0, none)
  | c :: cs, e, a, t =>
    if isDig c then ((numScan cs e false t).1 + 1, (numScan cs e false t).2)
    else if c == 46 && !t then ((numScan cs e a true).1 + 1, (numScan cs e a true).2)
    else if (c == 101 || c == 69) && !e then ((numScan cs true true true).1 + 1, (numScan cs true true true).2)
    else if (c == 43 || c == 45) && a then ((numScan cs e false t).1 + 1, (numScan cs e false t).2)
    else (0, some c)

namespace Lx
def fetchNumber (x : Lx) : Lx :=
  match numScan (x.d.drop (x.pos + 1)) false false false with
  | (_, none) => { x with pos := x.d.length, tok := x.d.drop x.start }
  | (n, some c) =>
    if isEndB c then { x with pos := x.pos + 1 + n, tok := (x.d.drop x.start).take (x.pos + 1 + n - x.start) }
    else { x with pos := x.pos + 1 + n }.fail
end Lx

/-- The first place of a byte. -/
def idxOf (c : Int) : List Int → Option Nat
  | [] => none
  | x :: xs => if x == c then some 0 else (idxOf c xs).map (· + 1)

/-- How many backslashes stand at the end. -/
def slashes : List Int → Nat
  | [] => 0
  | x :: xs => if xs.all (· == 92) && x == 92 then xs.length + 1 else slashes xs

/-- findStringLen, from the bytes that are left and the length so far. -/
def strLen : Nat → List Int → Nat → Bool × Nat
  | 0, data, _ => (false, data.length)
  | f + 1, data, len =>
    match idxOf 34 data with
    | none => (false, data.length)
    | some i => if slashes (data.take i) % 2 == 0 then (true, len + i) else strLen f (data.drop (i + 1)) (len + i + 1)

namespace Lx
def fetchString (x : Lx) : Lx :=
  match strLen (x.d.length + 1) (x.d.drop (x.pos + 1)) 0 with
  | (true, n) => { x with tok := (x.d.drop (x.pos + 1)).take n, pos := x.pos + 1 + n + 1 }
  | (false, n) => { x with pos := x.pos + 1 + n }.fail

/-- An error where a separator is due. -/
def sepFail (x : Lx) : Lx := if x.sep != 0 then x.fail else x

/-- FetchToken's loop: the bytes that are still to be looked at. -/
def scan : Lx → List Int → Lx
  | x, [] => { x with err := .eof }
  | x, c :: cs =>
    if c == 58 || c == 44 then
      if x.sep == c then scan { x with pos := x.pos + 1, start := x.start + 1, sep := 0 } cs else scan x.fail cs
    else if isBl c then scan { x with pos := x.pos + 1, start := x.start + 1 } cs
    else if c == 34 then { x.sepFail with kind := 2 }.fetchString
    else if c == 123 || c == 91 then { x.sepFail with fst := true, kind := 1, delim := x.d.getD x.pos 0, pos := x.pos + 1 }
    else if c == 125 || c == 93 then
      { (if !x.fst && x.sep != 44 then x.fail else x) with sep := 0, kind := 1, delim := x.d.getD x.pos 0, pos := x.pos + 1 }
    else if isDig c || c == 45 then { x.sepFail with kind := 3 }.fetchNumber
    else if c == 110 then { x.sepFail with kind := 5 }.word [117, 108, 108]
    else if c == 116 then { x.sepFail with kind := 4, bv := true }.word [114, 117, 101]
    else if c == 102 then { x.sepFail with kind := 4, bv := false }.word [97, 108, 115, 101]
    else x.fail

def fetch (x : Lx) : Lx := scan { x with kind := 0, start := x.pos } (x.d.drop x.pos)

/-- The look ahead that nearly every call begins with. -/
def peek (x : Lx) : Lx := if x.kind == 0 && x.ok then x.fetch else x
end Lx

end Go.Proofs.YtaecbclonmhbcaaGreatDoor
