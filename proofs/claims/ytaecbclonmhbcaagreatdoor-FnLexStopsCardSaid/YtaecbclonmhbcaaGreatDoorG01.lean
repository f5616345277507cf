/- Small facts on worlds: a block known whole, what a step leaves as it was, a slice of bytes. No program. The lexer as plain functions on lists of bytes (numbers). No program, no memory. How the lexer lies in memory, and what its smallest methods do to it. The lexer's errors of its own: errParse, errSyntax. -/
import Derived.WalkKit
import Derived.WalkSpells
import Derived.WalkLawsBesides
import Derived.Deep.QuietTactic
import Derived.BigQuiet
import Derived.Lib.Hide
import Derived.Test.YtaecbclonmhbcaaGreatDoorProg
set_option linter.unusedVariables false
set_option linter.unusedSimpArgs false
/- Small facts on worlds: a block known whole, what a step leaves as it was, a slice of bytes. No program. -/
namespace Go.Proofs.YtaecbclonmhbcaaGreatDoor
open Go.RowKit

theorem cell_of_heap {w : World} {b : Nat} {c : Array Value} {e : TypeId} {f : Nat × Nat} (h : w.heap[b]? = some (.cells c e f)) (i : Nat) {v : Value} (hv : c[i]? = some v) : w.cell? ⟨b, i, none⟩ = some v := by
  simp [World.cell?, h, hv]
theorem free_of_heap {w : World} {b : Nat} {c : Array Value} {e : TypeId} (h : w.heap[b]? = some (.cells c e (0, 0))) (i : Nat) : w.frozen? ⟨b, i, none⟩ = false := by
  simp [World.frozen?, h]
theorem heap_setCell {w : World} {b : Nat} {c : Array Value} {e : TypeId} {f : Nat × Nat} (h : w.heap[b]? = some (.cells c e f)) (i : Nat) (v : Value) :
    (w.setCell ⟨b, i, none⟩ v).heap[b]? = some (.cells (c.setIfInBounds i v) e f) := by
  simp [World.setCell, h, Array.getElem?_modify]
theorem heap_setCell_other {w : World} {b k : Nat} (i : Nat) (v : Value) (h : k ≠ b) : (w.setCell ⟨b, i, none⟩ v).heap[k]? = w.heap[k]? := by
  simp [World.setCell, Array.getElem?_modify]
  intro h'; exact absurd h'.symm h
theorem heap_alloc_lt {w : World} {o : Obj} {k : Nat} (h : k < w.heap.size) : (w.alloc o).heap[k]? = w.heap[k]? := by
  show (w.heap.push o)[k]? = w.heap[k]?
  simp [Array.getElem?_push, Nat.ne_of_lt h]
theorem heap_drewN {w : World} {n : Nat} : (w.drewN n).heap = w.heap := rfl
theorem lt_heap {w : World} {b : Nat} {o : Obj} (h : w.heap[b]? = some o) : b < w.heap.size := (Array.getElem?_eq_some_iff.1 h).1

/-- The step leaves every block but b, and what is not memory, as it was; there may be new blocks. -/
structure Kept (b : Nat) (w w' : World) : Prop where
  os : w'.os = w.os
  tape : w'.tape = w.tape
  output : w'.output = w.output
  size : w.heap.size ≤ w'.heap.size
  block : ∀ k, k < w.heap.size → k ≠ b → w'.heap[k]? = w.heap[k]?

theorem Kept.refl (b : Nat) (w : World) : Kept b w w := ⟨rfl, rfl, rfl, Nat.le_refl _, fun _ _ _ => rfl⟩
theorem Kept.trans {b : Nat} {u v w : World} (h : Kept b u v) (k : Kept b v w) : Kept b u w :=
  ⟨k.os.trans h.os, k.tape.trans h.tape, k.output.trans h.output, Nat.le_trans h.size k.size,
    fun i hi hn => (k.block i (Nat.lt_of_lt_of_le hi h.size) hn).trans (h.block i hi hn)⟩
theorem Kept.drewN {b : Nat} {u v : World} (h : Kept b u v) (n : Nat) : Kept b u (v.drewN n) := ⟨h.os, h.tape, h.output, h.size, h.block⟩
theorem Kept.drew {b : Nat} {u v : World} (h : Kept b u v) : Kept b u v.drew := ⟨h.os, h.tape, h.output, h.size, h.block⟩
theorem Kept.alloc {b : Nat} {u v : World} (h : Kept b u v) (o : Obj) : Kept b u (v.alloc o) :=
  ⟨h.os, h.tape, h.output, Nat.le_trans h.size (by simp), fun k hk hn => (heap_alloc_lt (Nat.lt_of_lt_of_le hk h.size)).trans (h.block k hk hn)⟩
theorem Kept.setCell {b : Nat} {u v : World} (h : Kept b u v) (i : Nat) (x : Value) : Kept b u (v.setCell ⟨b, i, none⟩ x) :=
  ⟨h.os, h.tape, h.output, Nat.le_trans h.size (by simp), fun k hk hn => (heap_setCell_other i x hn).trans (h.block k hk hn)⟩
theorem Kept.cell {b : Nat} {u v : World} (h : Kept b u v) {a : Addr} {x : Value} (hc : u.cell? a = some x) (hn : a.block ≠ b) : v.cell? a = some x := by
  have hb := h.block a.block (World.block_lt_of_cell? u a hc) hn
  rw [← hc]; simp [World.cell?, hb]
theorem Kept.heap {b : Nat} {u v : World} (h : Kept b u v) {k : Nat} {o : Obj} (hc : u.heap[k]? = some o) (hn : k ≠ b) : v.heap[k]? = some o :=
  (h.block k (lt_heap hc) hn).trans hc

/-- The slice value v holds the bytes l, in a block outside of A. -/
def BytesAt (w : World) (A : Nat → Prop) (v : Value) (l : List Int) : Prop :=
  (l = [] ∧ v = .slice none 0 0) ∨
    ∃ b o cap, v = .slice (some ⟨b, o, none⟩) l.length cap ∧ l.length ≤ cap ∧ (¬ A b ∧ b < w.heap.size) ∧ ∀ i, i < l.length → w.cell? ⟨b, o + i, none⟩ = some (.int .u8 (l.getD i 0))

/-- An error's address, and blocks that the lexer has no part in. -/
structure Sur where
  addr : Addr
  held : Nat → Prop
/-- The lexer's own block, and those. -/
def Sur.off (s : Sur) (b k : Nat) : Prop := k = b ∨ s.held k

theorem BytesAt.kept {w w' : World} {s : Sur} {nb : Nat} {v : Value} {l : List Int} (h : BytesAt w (s.off nb) v l) (hk : Kept nb w w') : BytesAt w' (s.off nb) v l := by
  rcases h with h | ⟨b, o, cap, hv, hc, hn, hx⟩
  · exact .inl h
  · exact .inr ⟨b, o, cap, hv, hc, ⟨hn.1, Nat.lt_of_lt_of_le hn.2 hk.size⟩, fun i hi => hk.cell (hx i hi) fun e => hn.1 (.inl e)⟩

end Go.Proofs.YtaecbclonmhbcaaGreatDoor

/- The lexer as plain functions on lists of bytes (numbers). No program, no memory. -/
namespace Go.Proofs.YtaecbclonmhbcaaGreatDoor

/-- The kind of error that the lexer holds. -/
inductive Er where
  | nil | eof | other | lex (off : Nat)

def Er.isNil : Er → Bool
  | .nil => true
  | _ => false
/-- What impl.kind tells of it. -/
def Er.num : Er → Int
  | .nil => 0
  | .eof => 1
  | _ => 2

structure Lx where
  d : List Int
  start : Nat
  pos : Nat
  kind : Nat
  bv : Bool
  cl : Bool
  tok : List Int
  delim : Int
  fst : Bool
  sep : Int
  multi : Bool
  err : Er
  errs : List Nat

namespace Lx
def ok (x : Lx) : Bool := x.err.isNil
/-- errParse: the first error stays. -/
def fail (x : Lx) : Lx := if x.ok then { x with err := .lex x.pos } else x
def consume (x : Lx) : Lx := { x with kind := 0, cl := false, delim := 0 }
end Lx

def isBl (c : Int) : Bool := c == 32 || c == 9 || c == 13 || c == 10
def isEndB (c : Int) : Bool := isBl c || c == 91 || c == 93 || c == 123 || c == 125 || c == 44 || c == 58
def isDig (c : Int) : Bool := decide (48 ≤ c) && decide (c ≤ 57)

def headEnd : List Int → Bool
  | [] => true
  | c :: _ => isEndB c
/-- Do the bytes behind place p (a word's first byte) go on as ws, with the end or an end sign behind? -/
def wordAt (d : List Int) (p : Nat) (ws : List Int) : Bool :=
  (d.drop (p + 1)).take ws.length == ws && headEnd (d.drop (p + 1 + ws.length))

namespace Lx
def word (x : Lx) (ws : List Int) : Lx := if wordAt x.d x.pos ws then { x with pos := x.pos + 1 + ws.length } else x.fail
end Lx

/-- How far a number goes, and the sign that ended it. -/
def numScan : List Int → Bool → Bool → Bool → Nat × Option Int
  | [], _, _, _ => (0, none)
  | c :: cs, e, a, t =>
    if isDig c then ((numScan cs e false t).1 + 1, (numScan cs e false t).2)
    else if c == 46 && !t then ((numScan cs e a true).1 + 1, (numScan cs e a true).2)
    else if (c == 101 || c == 69) && !e then ((numScan cs true true true).1 + 1, (numScan cs true true true).2)
    else if (c == 43 || c == 45) && a then ((numScan cs e false t).1 + 1, (numScan cs e false t).2)
    else (0, some c)

namespace Lx
def fetchNumber (x : Lx) : Lx :=
  match numScan (x.d.drop (x.pos + 1)) false false false with
  | (_, none) => { x with pos := x.d.length, tok := x.d.drop x.start }
  | (n, some c) =>
    if isEndB c then { x with pos := x.pos + 1 + n, tok := (x.d.drop x.start).take (x.pos + 1 + n - x.start) }
    else { x with pos := x.pos + 1 + n }.fail
end Lx

/-- The first place of a byte. -/
def idxOf (c : Int) : List Int → Option Nat
  | [] => none
  | x :: xs => if x == c then some 0 else (idxOf c xs).map (· + 1)

/-- How many backslashes stand at the end. -/
def slashes : List Int → Nat
  | [] => 0
  | x :: xs => if xs.all (· == 92) && x == 92 then xs.length + 1 else slashes xs

/-- findStringLen, from the bytes that are left and the length so far. -/
def strLen : Nat → List Int → Nat → Bool × Nat
  | 0, data, _ => (false, data.length)
  | f + 1, data, len =>
    match idxOf 34 data with
    | none => (false, data.length)
    | some i => if slashes (data.take i) % 2 == 0 then (true, len + i) else strLen f (data.drop (i + 1)) (len + i + 1)

namespace Lx
def fetchString (x : Lx) : Lx :=
  match strLen (x.d.length + 1) (x.d.drop (x.pos + 1)) 0 with
  | (true, n) => { x with tok := (x.d.drop (x.pos + 1)).take n, pos := x.pos + 1 + n + 1 }
  | (false, n) => { x with pos := x.pos + 1 + n }.fail

/-- An error where a separator is due. -/
def sepFail (x : Lx) : Lx := if x.sep != 0 then x.fail else x

/-- FetchToken's loop: the bytes that are still to be looked at. -/
def scan : Lx → List Int → Lx
  | x, [] => { x with err := .eof }
  | x, c :: cs =>
    if c == 58 || c == 44 then
      if x.sep == c then scan { x with pos := x.pos + 1, start := x.start + 1, sep := 0 } cs else scan x.fail cs
    else if isBl c then scan { x with pos := x.pos + 1, start := x.start + 1 } cs
    else if c == 34 then { x.sepFail with kind := 2 }.fetchString
    else if c == 123 || c == 91 then { x.sepFail with fst := true, kind := 1, delim := x.d.getD x.pos 0, pos := x.pos + 1 }
    else if c == 125 || c == 93 then
      { (if !x.fst && x.sep != 44 then x.fail else x) with sep := 0, kind := 1, delim := x.d.getD x.pos 0, pos := x.pos + 1 }
    else if isDig c || c == 45 then { x.sepFail with kind := 3 }.fetchNumber
    else if c == 110 then { x.sepFail with kind := 5 }.word [117, 108, 108]
    else if c == 116 then { x.sepFail with kind := 4, bv := true }.word [114, 117, 101]
    else if c == 102 then { x.sepFail with kind := 4, bv := false }.word [97, 108, 115, 101]
    else x.fail

def fetch (x : Lx) : Lx := scan { x with kind := 0, start := x.pos } (x.d.drop x.pos)

/-- The look ahead that nearly every call begins with. -/
def peek (x : Lx) : Lx := if x.kind == 0 && x.ok then x.fetch else x
end Lx

end Go.Proofs.YtaecbclonmhbcaaGreatDoor

/- How the lexer lies in memory, and what its smallest methods do to it. -/
namespace Go.Proofs.YtaecbclonmhbcaaGreatDoor
open Go.RowKit

/-- The two errors that have names: io.EOF's and errOther's addresses. -/
structure Env (w : World) (ae : Sur) (ao : Addr) : Prop where
  eof : w.cell? ⟨1, 0, none⟩ = some (.iface 191 (.pointer (some ae.addr)))
  other : w.cell? ⟨0, 0, none⟩ = some (.iface 191 (.pointer (some ao)))
  ne : ae.addr ≠ ao

/-- An error value. -/
def ErrAt (w : World) (nb : Nat) (ae : Sur) (ao : Addr) (v : Value) : Er → Prop
  | .nil => v = .nilIface
  | .eof => v = .iface 191 (.pointer (some ae.addr))
  | .other => v = .iface 191 (.pointer (some ao))
  | .lex n => ∃ (k : Nat) (s t : ByteArray), v = .iface 60 (.pointer (some ⟨k, 0, none⟩)) ∧ ¬ ae.off nb k ∧ w.heap[k]? = some (.cells #[.string s, .int .i64 n, .string t] 66 (0, 0))

theorem ErrAt.kept {w w' : World} {nb : Nat} {ae : Sur} {ao : Addr} {v : Value} {e : Er} (h : ErrAt w nb ae ao v e) (hk : Kept nb w w') : ErrAt w' nb ae ao v e := by
  cases e <;> simp only [ErrAt] at h ⊢ <;> try exact h
  obtain ⟨k, s, t, hv, hn, hh⟩ := h
  exact ⟨k, s, t, hv, hn, hk.heap hh fun e => hn (.inl e)⟩

/-- The lexer's own cells, by their values. -/
def lxCells (vd : Value) (x : Lx) (vt ve vm : Value) : Array Value :=
  #[vd, .int .i64 x.start, .int .i64 x.pos, .int .u8 x.kind, .bool x.bv, .bool x.cl, vt, .int .u8 x.delim, .bool x.fst, .int .u8 x.sep, .bool x.multi, ve, vm]

/-- The lexer lies in block b and is in the state x. -/
structure LexAt (w : World) (b : Nat) (ae : Sur) (ao : Addr) (x : Lx) (vd vt ve vm : Value) : Prop where
  heap : w.heap[b]? = some (.cells (lxCells vd x vt ve vm) 83 (0, 0))
  data : BytesAt w (ae.off b) vd x.d
  tok : BytesAt w (ae.off b) vt x.tok
  err : ErrAt w b ae ao ve x.err
  env : Env w ae ao
  b2 : 1 < b
  held : ∀ k, ae.held k → k < w.heap.size

/-- .. with the values unnamed. -/
def LexIs (w : World) (b : Nat) (ae : Sur) (ao : Addr) (x : Lx) (vd vm : Value) : Prop := ∃ vt ve, LexAt w b ae ao x vd vt ve vm

theorem Env.kept {w w' : World} {nb : Nat} {ae : Sur} {ao : Addr} (h : Env w ae ao) (hk : Kept nb w w') (hb : 1 < nb) : Env w' ae ao :=
  ⟨hk.cell h.eof (by simp; omega), hk.cell h.other (by simp; omega), h.ne⟩

section
variable {w w' : World} {b : Nat} {ae : Sur} {ao : Addr} {x : Lx} {vd vt ve vm : Value}
theorem LexAt.c0 (h : LexAt w b ae ao x vd vt ve vm) : w.cell? ⟨b, 0, none⟩ = some vd := cell_of_heap h.heap 0 rfl
theorem LexAt.c1 (h : LexAt w b ae ao x vd vt ve vm) : w.cell? ⟨b, 1, none⟩ = some (.int .i64 x.start) := cell_of_heap h.heap 1 rfl
theorem LexAt.c2 (h : LexAt w b ae ao x vd vt ve vm) : w.cell? ⟨b, 2, none⟩ = some (.int .i64 x.pos) := cell_of_heap h.heap 2 rfl
theorem LexAt.c3 (h : LexAt w b ae ao x vd vt ve vm) : w.cell? ⟨b, 3, none⟩ = some (.int .u8 x.kind) := cell_of_heap h.heap 3 rfl
theorem LexAt.c4 (h : LexAt w b ae ao x vd vt ve vm) : w.cell? ⟨b, 4, none⟩ = some (.bool x.bv) := cell_of_heap h.heap 4 rfl
theorem LexAt.c5 (h : LexAt w b ae ao x vd vt ve vm) : w.cell? ⟨b, 5, none⟩ = some (.bool x.cl) := cell_of_heap h.heap 5 rfl
theorem LexAt.c6 (h : LexAt w b ae ao x vd vt ve vm) : w.cell? ⟨b, 6, none⟩ = some vt := cell_of_heap h.heap 6 rfl
theorem LexAt.c7 (h : LexAt w b ae ao x vd vt ve vm) : w.cell? ⟨b, 7, none⟩ = some (.int .u8 x.delim) := cell_of_heap h.heap 7 rfl
theorem LexAt.c8 (h : LexAt w b ae ao x vd vt ve vm) : w.cell? ⟨b, 8, none⟩ = some (.bool x.fst) := cell_of_heap h.heap 8 rfl
theorem LexAt.c9 (h : LexAt w b ae ao x vd vt ve vm) : w.cell? ⟨b, 9, none⟩ = some (.int .u8 x.sep) := cell_of_heap h.heap 9 rfl
theorem LexAt.c10 (h : LexAt w b ae ao x vd vt ve vm) : w.cell? ⟨b, 10, none⟩ = some (.bool x.multi) := cell_of_heap h.heap 10 rfl
theorem LexAt.c11 (h : LexAt w b ae ao x vd vt ve vm) : w.cell? ⟨b, 11, none⟩ = some ve := cell_of_heap h.heap 11 rfl
theorem LexAt.c12 (h : LexAt w b ae ao x vd vt ve vm) : w.cell? ⟨b, 12, none⟩ = some vm := cell_of_heap h.heap 12 rfl
theorem LexAt.free (h : LexAt w b ae ao x vd vt ve vm) (i : Nat) : w.frozen? ⟨b, i, none⟩ = false := free_of_heap h.heap i
theorem LexAt.lt (h : LexAt w b ae ao x vd vt ve vm) : b < w.heap.size := lt_heap h.heap
/-- A new block is none of the lexer's, and none of the others'. -/
theorem LexAt.fresh (h : LexAt w b ae ao x vd vt ve vm) : ¬ ae.off b w.heap.size := by
  rintro (e | e)
  · have := h.lt; omega
  · have := h.held _ e; omega

/-- The state in a later world: its cells, and what the two changing values are. -/
theorem LexAt.into (h : LexAt w b ae ao x vd vt ve vm) (hk : Kept b w w') {x' : Lx} {vt' ve' vm' : Value} (hd : x'.d = x.d)
    (hh : w'.heap[b]? = some (.cells (lxCells vd x' vt' ve' vm') 83 (0, 0))) (ht : BytesAt w' (ae.off b) vt' x'.tok) (he : ErrAt w' b ae ao ve' x'.err) : LexAt w' b ae ao x' vd vt' ve' vm' :=
  ⟨hh, by rw [hd]; exact h.data.kept hk, ht, he, h.env.kept hk h.b2, h.b2, fun k a => Nat.lt_of_lt_of_le (h.held k a) hk.size⟩

/-- Draws turn nothing. -/
theorem LexAt.drewN (h : LexAt w b ae ao x vd vt ve vm) (n : Nat) : LexAt (w.drewN n) b ae ao x vd vt ve vm :=
  h.into ((Kept.refl b w).drewN n) rfl h.heap (h.tok.kept ((Kept.refl b w).drewN n)) (h.err.kept ((Kept.refl b w).drewN n))

/-- A store into a cell of the lexer's own that is neither the token's bytes, nor the error. -/
theorem LexAt.set (h : LexAt w b ae ao x vd vt ve vm) (i : Nat) (v : Value) {x' : Lx} (hc : (lxCells vd x vt ve vm).setIfInBounds i v = lxCells vd x' vt ve vm)
    (hd : x'.d = x.d) (ht : x'.tok = x.tok) (he : x'.err = x.err) : LexAt (w.setCell ⟨b, i, none⟩ v) b ae ao x' vd vt ve vm := by
  have hk := (Kept.refl b w).setCell i v
  refine h.into hk hd ?_ (by rw [ht]; exact h.tok.kept hk) (by rw [he]; exact h.err.kept hk)
  rw [heap_setCell h.heap i v, hc]
theorem LexAt.setStart (h : LexAt w b ae ao x vd vt ve vm) (n : Nat) : LexAt (w.setCell ⟨b, 1, none⟩ (.int .i64 n)) b ae ao { x with start := n } vd vt ve vm := h.set 1 _ rfl rfl rfl rfl
theorem LexAt.setPos (h : LexAt w b ae ao x vd vt ve vm) (n : Nat) : LexAt (w.setCell ⟨b, 2, none⟩ (.int .i64 n)) b ae ao { x with pos := n } vd vt ve vm := h.set 2 _ rfl rfl rfl rfl
theorem LexAt.setKind (h : LexAt w b ae ao x vd vt ve vm) (n : Nat) : LexAt (w.setCell ⟨b, 3, none⟩ (.int .u8 n)) b ae ao { x with kind := n } vd vt ve vm := h.set 3 _ rfl rfl rfl rfl
theorem LexAt.setBv (h : LexAt w b ae ao x vd vt ve vm) (n : Bool) : LexAt (w.setCell ⟨b, 4, none⟩ (.bool n)) b ae ao { x with bv := n } vd vt ve vm := h.set 4 _ rfl rfl rfl rfl
theorem LexAt.setCl (h : LexAt w b ae ao x vd vt ve vm) (n : Bool) : LexAt (w.setCell ⟨b, 5, none⟩ (.bool n)) b ae ao { x with cl := n } vd vt ve vm := h.set 5 _ rfl rfl rfl rfl
theorem LexAt.setDelim (h : LexAt w b ae ao x vd vt ve vm) (n : Int) : LexAt (w.setCell ⟨b, 7, none⟩ (.int .u8 n)) b ae ao { x with delim := n } vd vt ve vm := h.set 7 _ rfl rfl rfl rfl
theorem LexAt.setFst (h : LexAt w b ae ao x vd vt ve vm) (n : Bool) : LexAt (w.setCell ⟨b, 8, none⟩ (.bool n)) b ae ao { x with fst := n } vd vt ve vm := h.set 8 _ rfl rfl rfl rfl
theorem LexAt.setSep (h : LexAt w b ae ao x vd vt ve vm) (n : Int) : LexAt (w.setCell ⟨b, 9, none⟩ (.int .u8 n)) b ae ao { x with sep := n } vd vt ve vm := h.set 9 _ rfl rfl rfl rfl
theorem LexAt.setErr (h : LexAt w b ae ao x vd vt ve vm) (v : Value) (e : Er) (he : ErrAt (w.setCell ⟨b, 11, none⟩ v) b ae ao v e) : LexAt (w.setCell ⟨b, 11, none⟩ v) b ae ao { x with err := e } vd vt v vm := by
  have hk := (Kept.refl b w).setCell 11 v
  exact h.into hk rfl (by rw [heap_setCell h.heap 11 v]; rfl) (h.tok.kept hk) he
theorem LexAt.setTok (h : LexAt w b ae ao x vd vt ve vm) (v : Value) (l : List Int) (ht : BytesAt (w.setCell ⟨b, 6, none⟩ v) (ae.off b) v l) : LexAt (w.setCell ⟨b, 6, none⟩ v) b ae ao { x with tok := l } vd v ve vm := by
  have hk := (Kept.refl b w).setCell 6 v
  exact h.into hk rfl (by rw [heap_setCell h.heap 6 v]; rfl) ht (h.err.kept hk)
theorem LexAt.alloc (h : LexAt w b ae ao x vd vt ve vm) (o : Obj) : LexAt (w.alloc o) b ae ao x vd vt ve vm := by
  have hk := (Kept.refl b w).alloc o
  exact h.into hk rfl (by rw [heap_alloc_lt h.lt]; exact h.heap) (h.tok.kept hk) (h.err.kept hk)
end

section
variable {w : World} {b : Nat} {ae : Sur} {ao : Addr} {x : Lx} {vd vt ve vm : Value}
set_option maxHeartbeats 400000 in
theorem consume_any (h : LexAt w b ae ao x vd vt ve vm) :
    Calls Tryz.prog 104 #[.pointer (some ⟨b, 0, none⟩)] w fun e w' => e = .returned (.tuple #[]) ∧ LexAt w' b ae ao x.consume vd vt ve vm ∧ Kept b w w' := by
  have c3 := h.c3
  have c5 := h.c5
  have c7 := h.c7
  have f3 := h.free 3
  have f5 := h.free 5
  have f7 := h.free 7
  go_enter Tryz.func104, Tryz.ntmps104
  go_wp2
  go_end0
  exact ⟨rfl, ((h.setKind 0).setCl false).setDelim 0, (((Kept.refl b w).setCell 3 _).setCell 5 _).setCell 7 _⟩

set_option maxHeartbeats 400000 in
theorem ok_any (h : LexAt w b ae ao x vd vt ve vm) :
    Calls Tryz.prog 47 #[.pointer (some ⟨b, 0, none⟩)] w fun e w' => e = .returned (.bool x.ok) ∧ w = w' := by
  have c11 := h.c11
  have he := h.err
  have hx : x.ok = x.err.isNil := rfl
  rw [hx]
  clear h hx
  cases hxe : x.err <;> rw [hxe] at he <;> simp only [ErrAt] at he <;> clear hxe
  case lex n => obtain ⟨k, s, t, rfl, -, -⟩ := he; go_enter Tryz.func47, Tryz.ntmps47; go_wp2; go_ret; exact ⟨rfl, rfl⟩
  all_goals (subst he; go_enter Tryz.func47, Tryz.ntmps47; go_wp2; go_ret; exact ⟨rfl, rfl⟩)
end
end Go.Proofs.YtaecbclonmhbcaaGreatDoor

/- The lexer's errors of its own: errParse, errSyntax. -/
namespace Go.Proofs.YtaecbclonmhbcaaGreatDoor
open Go.RowKit

/-- string(b) of a slice of bytes. -/
theorem run_bytes_str {w : World} {A : Nat → Prop} {v : Value} {xs : List Int} (h : BytesAt w A v xs) (m : Nat) :
    ∀ dst, Tryz.prog.underlying dst = some .string → (convert 22 dst v).run Tryz.prog (w.drewN m) = .ok (.string (strOfNums xs)) (w.drewN m) := by
  intro dst hd
  rcases h with ⟨rfl, rfl⟩ | ⟨b, o, cap, rfl, hc, hn, hx⟩
  · exact run_convert_bytes_nil _ 22 5 Tryz.underlying22 Tryz.underlying5 _ _ dst hd
  · exact run_convert_bytes_arg (w.drewN m) 22 5 Tryz.underlying22 Tryz.underlying5 b o _ _ xs rfl hx dst hd

section
variable {w : World} {b : Nat} {ae : Sur} {ao : Addr} {x : Lx} {vd vt ve vm : Value}

/-- The bytes of the text, where there is one. -/
theorem LexAt.bytes (h : LexAt w b ae ao x vd vt ve vm) (hp : 0 < x.d.length) :
    ∃ bd o cap, vd = .slice (some ⟨bd, o, none⟩) x.d.length cap ∧ x.d.length ≤ cap ∧ bd ≠ b ∧ ∀ i, i < x.d.length → w.cell? ⟨bd, o + i, none⟩ = some (.int .u8 (x.d.getD i 0)) := by
  rcases h.data with ⟨h0, -⟩ | ⟨bd, o, cap, rfl, hc, hne, hx⟩
  · rw [h0] at hp; simp at hp
  · exact ⟨bd, o, cap, rfl, hc, fun e => hne.1 (.inl e), hx⟩
theorem LexAt.shape (h : LexAt w b ae ao x vd vt ve vm) : ∃ p cap, vd = .slice p x.d.length cap := by
  rcases h.data with ⟨h0, rfl⟩ | ⟨bd, o, cap, rfl, -⟩
  · exact ⟨none, 0, by rw [h0]; rfl⟩
  · exact ⟨_, cap, rfl⟩

/-- A new error of the lexer's own at the place n. -/
theorem LexAt.newErr (h : LexAt w b ae ao x vd vt ve vm) (s t : ByteArray) (n : Nat) (m : Nat) :
    LexAt (((w.drewN m).alloc (.cells #[.string s, .int .i64 n, .string t] 66)).setCell ⟨b, 11, none⟩ (.iface 60 (.pointer (some ⟨w.heap.size, 0, none⟩)))) b ae ao { x with err := .lex n } vd vt (.iface 60 (.pointer (some ⟨w.heap.size, 0, none⟩))) vm := by
  have hb := h.lt
  refine ((h.drewN m).alloc _).setErr _ (.lex n) ⟨w.heap.size, s, t, rfl, h.fresh, ?_⟩
  rw [heap_setCell_other 11 _ (by omega)]
  exact heap_alloc_new (w.drewN m) _

set_option maxHeartbeats 400000 in
theorem errParse_held (h : LexAt w b ae ao x vd vt ve vm) (hx : x.ok = false) (s : ByteArray) :
    Calls Tryz.prog 117 #[.pointer (some ⟨b, 0, none⟩), .string s] w fun e w' => e = .returned (.tuple #[]) ∧ w = w' := by
  have c11 := h.c11
  have he := h.err
  have hx' : x.err.isNil = false := hx
  clear h hx
  cases hxe : x.err <;> rw [hxe] at he hx' <;> simp only [ErrAt, Er.isNil, Bool.true_eq_false] at he hx' <;> clear hxe
  case lex n => obtain ⟨k, s, t, rfl, -, -⟩ := he; go_enter Tryz.func117, Tryz.ntmps117; go_wp2; go_end0; exact ⟨rfl, rfl⟩
  all_goals (subst he; go_enter Tryz.func117, Tryz.ntmps117; go_wp2; go_end0; exact ⟨rfl, rfl⟩)

def Failed (w : World) (b : Nat) (ae : Sur) (ao : Addr) (x : Lx) (vd vt vm : Value) (w' : World) : Prop := ∃ ve', LexAt w' b ae ao x vd vt ve' vm ∧ Kept b w w'

set_option maxHeartbeats 400000 in
theorem errParse_short_at (p : Option Addr) (cap : Nat) (h : LexAt w b ae ao x (.slice p x.d.length cap) vt ve vm) (hx : x.ok = true) (s : ByteArray) (hn : x.d.length ≤ 1073741824) (hp : x.pos ≤ x.d.length) (hs : x.d.length - x.pos ≤ 13) :
    Calls Tryz.prog 117 #[.pointer (some ⟨b, 0, none⟩), .string s] w fun e w' => e = .returned (.tuple #[]) ∧ Failed w b ae ao { x with err := .lex x.pos } (.slice p x.d.length cap) vt vm w' := by
  have c11 := h.c11
  have c0 := h.c0
  have c2 := h.c2
  have f11 := h.free 11
  have hlt := h.lt
  have hve : ve = .nilIface := by
    have he := h.err
    have hx' : x.err.isNil = true := hx
    cases hxe : x.err <;> rw [hxe] at he hx' <;> simp only [ErrAt, Er.isNil, Bool.false_eq_true] at he hx'
    exact he
  rw [hve] at c11
  have hd : decide ((x.d.length : Int) - x.pos ≤ 13) = true := by simp; omega
  have hcv := run_bytes_str h.data
  have had : ∀ (n : Nat) (O : Obj), (w.drewN n).alloc O = (w.alloc O).drewN n := fun _ _ => rfl
  have H := Lib.hid h
  clear h hve hx
  go_enter Tryz.func117, Tryz.ntmps117
  go_wp2
  go_quiet (fail)
  go_wp2
  go_end0
  exact ⟨rfl, _, H.out.newErr s _ _ _, (((Kept.refl b w).drewN _).alloc _).setCell 11 _⟩

theorem errParse_short (h : LexAt w b ae ao x vd vt ve vm) (hx : x.ok = true) (s : ByteArray) (hn : x.d.length ≤ 1073741824) (hp : x.pos ≤ x.d.length) (hs : x.d.length - x.pos ≤ 13) :
    Calls Tryz.prog 117 #[.pointer (some ⟨b, 0, none⟩), .string s] w fun e w' => e = .returned (.tuple #[]) ∧ Failed w b ae ao { x with err := .lex x.pos } vd vt vm w' := by
  obtain ⟨p, cap, rfl⟩ := h.shape
  exact errParse_short_at p cap h hx s hn hp hs

set_option maxHeartbeats 400000 in
theorem errParse_long (h : LexAt w b ae ao x vd vt ve vm) (hx : x.ok = true) (s : ByteArray) (hn : x.d.length ≤ 1073741824) (hs : x.pos + 13 < x.d.length) :
    Calls Tryz.prog 117 #[.pointer (some ⟨b, 0, none⟩), .string s] w fun e w' => e = .returned (.tuple #[]) ∧ Failed w b ae ao { x with err := .lex x.pos } vd vt vm w' := by
  have c11 := h.c11
  have c0 := h.c0
  have c2 := h.c2
  have f11 := h.free 11
  have hlt := h.lt
  have hve : ve = .nilIface := by
    have he := h.err
    have hx' : x.err.isNil = true := hx
    cases hxe : x.err <;> rw [hxe] at he hx' <;> simp only [ErrAt, Er.isNil, Bool.false_eq_true] at he hx'
    exact he
  rw [hve] at c11
  obtain ⟨bd, o, cap, rfl, hc, hne, hcell⟩ := h.bytes (by omega)
  have hd : decide ((x.d.length : Int) - x.pos ≤ 13) = false := by simp; omega
  obtain ⟨sv, hcv, hsz⟩ : ∃ sv : ByteArray, (∀ (m cp : Nat) (dst : TypeId), Tryz.prog.underlying dst = some .string → (convert 22 dst (.slice (some ⟨bd, o + x.pos, none⟩) 10 cp)).run Tryz.prog (w.drewN m) = .ok (.string sv) (w.drewN m)) ∧ sv.size ≤ 10 :=
    ⟨strOfNums ((x.d.drop x.pos).take 10), fun m cp =>
    run_convert_bytes_arg (w.drewN m) 22 5 Tryz.underlying22 Tryz.underlying5 bd (o + x.pos) 10 cp ((x.d.drop x.pos).take 10) (by simp; omega) (fun i hi => by
      have := hcell (x.pos + i) (by omega)
      rw [← Nat.add_assoc] at this
      show w.cell? _ = _
      rw [this]
      simp [List.getD, hi]), by rw [strOfNums_size]; simp; omega⟩
  have had : ∀ (n : Nat) (O : Obj), (w.drewN n).alloc O = (w.alloc O).drewN n := fun _ _ => rfl
  have H := Lib.hid h
  clear h hve hx
  have s1 : IntKind.i64.wrap ((x.pos : Int) + 13) = (x.pos : Int) + 13 := IntWalk.i64_in _ (by omega)
  have s2 : IntKind.i64.wrap ((x.pos : Int) + 13 - 3) = (x.pos : Int) + 10 := by rw [IntWalk.i64_in _ (by omega)]; omega
  have s3 : ((x.pos : Int) + 10).toNat = x.pos + 10 := by omega
  have s4 : (0 : Int) ≤ (x.pos : Int) + 10 := by omega
  have s5 : (x.pos : Int) + 10 ≤ (cap : Int) := by omega
  have s6 : (x.pos : Int) ≤ (x.pos : Int) + 10 := by omega
  have s7 : x.pos + 10 - x.pos = 10 := by omega
  have s8 : ¬ cap = x.pos := by omega
  go_enter Tryz.func117, Tryz.ntmps117
  go_wp2
  go_quiet (fail)
  go_wp2
  go_quiet (fail)
  go_wp2
  go_end0
  exact ⟨rfl, _, H.out.newErr s _ _ _, (((Kept.refl b w).drewN _).alloc _).setCell 11 _⟩
end
end Go.Proofs.YtaecbclonmhbcaaGreatDoor
