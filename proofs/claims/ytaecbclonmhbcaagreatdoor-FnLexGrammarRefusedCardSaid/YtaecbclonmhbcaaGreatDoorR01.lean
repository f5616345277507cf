/- Small facts on worlds: a block known whole, what a step leaves as it was, a slice of bytes. No program. The lexer as plain functions on lists of bytes (numbers). No program, no memory. How the lexer lies in memory, and what its smallest methods do to it. The lexer's errors of its own: errParse, errSyntax. isTokenEnd, and the words null, true, false. bytes.IndexByte and findStringLen. findStringLen. -/
import Derived.WalkKit
import Derived.WalkSpells
import Derived.WalkLawsBesides
import Derived.Deep.QuietTactic
import Derived.BigQuiet
import Derived.Lib.Hide
import Derived.Test.YtaecbclonmhbcaaGreatDoorProg
import Derived.Lib.BytesEntry
set_option linter.unusedVariables false
set_option linter.unusedSimpArgs false
namespace Go.Proofs.YtaecbclonmhbcaaGreatDoor
open Go.RowKit
theorem cell_of_heap {w : World} {b : Nat} {c : Array Value} {e : TypeId} {f : Nat × Nat} (h : w.heap[b]? = some (.cells c e f)) (i : Nat) {v : Value} (hv : c[i]? = some v) : w.cell? ⟨b, i, none⟩ = some v := by
  simp [World.cell?, h, hv]
theorem free_of_heap {w : World} {b : Nat} {c : Array Value} {e : TypeId} (h : w.heap[b]? = some (.cells c e (0, 0))) (i : Nat) : w.frozen? ⟨b, i, none⟩ = false := by
  simp [World.frozen?, h]
theorem heap_setCell {w : World} {b : Nat} {c : Array Value} {e : TypeId} {f : Nat × Nat} (h : w.heap[b]? = some (.cells c e f)) (i : Nat) (v : Value) :
    (w.setCell ⟨b, i, none⟩ v).heap[b]? = some (.cells (c.setIfInBounds i v) e f) := by
  simp [World.setCell, h, Array.getElem?_modify]
theorem heap_setCell_other {w : World} {b k : Nat} (i : Nat) (v : Value) (h : k ≠ b) : (w.setCell ⟨b, i, none⟩ v).heap[k]? = w.heap[k]? := by
  simp [World.setCell, Array.getElem?_modify]
  intro h'; exact absurd h'.symm h
theorem heap_alloc_lt {w : World} {o : Obj} {k : Nat} (h : k < w.heap.size) : (w.alloc o).heap[k]? = w.heap[k]? := by
  show (w.heap.push o)[k]? = w.heap[k]?
  simp [Array.getElem?_push, Nat.ne_of_lt h]
theorem lt_heap {w : World} {b : Nat} {o : Obj} (h : w.heap[b]? = some o) : b < w.heap.size := (Array.getElem?_eq_some_iff.1 h).1
structure Kept (b : Nat) (w w' : World) : Prop where
  os : w'.os = w.os
  tape : w'.tape = w.tape
  output : w'.output = w.output
  size : w.heap.size ≤ w'.heap.size
  block : ∀ k, k < w.heap.size → k ≠ b → w'.heap[k]? = w.heap[k]?
theorem Kept.refl (b : Nat) (w : World) : Kept b w w := ⟨rfl, rfl, rfl, Nat.le_refl _, fun _ _ _ => rfl⟩
theorem Kept.trans {b : Nat} {u v w : World} (h : Kept b u v) (k : Kept b v w) : Kept b u w :=
  ⟨k.os.trans h.os, k.tape.trans h.tape, k.output.trans h.output, Nat.le_trans h.size k.size,
    fun i hi hn => (k.block i (Nat.lt_of_lt_of_le hi h.size) hn).trans (h.block i hi hn)⟩
theorem Kept.drewN {b : Nat} {u v : World} (h : Kept b u v) (n : Nat) : Kept b u (v.drewN n) := ⟨h.os, h.tape, h.output, h.size, h.block⟩
theorem Kept.drew {b : Nat} {u v : World} (h : Kept b u v) : Kept b u v.drew := ⟨h.os, h.tape, h.output, h.size, h.block⟩
theorem Kept.alloc {b : Nat} {u v : World} (h : Kept b u v) (o : Obj) : Kept b u (v.alloc o) :=
  ⟨h.os, h.tape, h.output, Nat.le_trans h.size (by simp), fun k hk hn => (heap_alloc_lt (Nat.lt_of_lt_of_le hk h.size)).trans (h.block k hk hn)⟩
theorem Kept.setCell {b : Nat} {u v : World} (h : Kept b u v) (i : Nat) (x : Value) : Kept b u (v.setCell ⟨b, i, none⟩ x) :=
  ⟨h.os, h.tape, h.output, Nat.le_trans h.size (by simp), fun k hk hn => (heap_setCell_other i x hn).trans (h.block k hk hn)⟩
theorem Kept.cell {b : Nat} {u v : World} (h : Kept b u v) {a : Addr} {x : Value} (hc : u.cell? a = some x) (hn : a.block ≠ b) : v.cell? a = some x := by
  have hb := h.block a.block (World.block_lt_of_cell? u a hc) hn
  rw [← hc]; simp [World.cell?, hb]
theorem Kept.heap {b : Nat} {u v : World} (h : Kept b u v) {k : Nat} {o : Obj} (hc : u.heap[k]? = some o) (hn : k ≠ b) : v.heap[k]? = some o :=
  (h.block k (lt_heap hc) hn).trans hc
def BytesAt (w : World) (A : Nat → Prop) (v : Value) (l : List Int) : Prop :=
  (l = [] ∧ v = .slice none 0 0) ∨
    ∃ b o cap, v = .slice (some ⟨b, o, none⟩) l.length cap ∧ l.length ≤ cap ∧ (¬ A b ∧ b < w.heap.size) ∧ ∀ i, i < l.length → w.cell? ⟨b, o + i, none⟩ = some (.int .u8 (l.getD i 0))
structure Sur where
  addr : Addr
  held : Nat → Prop
def Sur.off (s : Sur) (b k : Nat) : Prop := k = b ∨ s.held k
theorem BytesAt.kept {w w' : World} {s : Sur} {nb : Nat} {v : Value} {l : List Int} (h : BytesAt w (s.off nb) v l) (hk : Kept nb w w') : BytesAt w' (s.off nb) v l := by
  rcases h with h | ⟨b, o, cap, hv, hc, hn, hx⟩
  · exact .inl h
  · exact .inr ⟨b, o, cap, hv, hc, ⟨hn.1, Nat.lt_of_lt_of_le hn.2 hk.size⟩, fun i hi => hk.cell (hx i hi) fun e => hn.1 (.inl e)⟩
end Go.Proofs.YtaecbclonmhbcaaGreatDoor

namespace Go.Proofs.YtaecbclonmhbcaaGreatDoor
inductive Er where
  | nil | eof | other | lex (off : Nat)
def Er.isNil : Er → Bool
  | .nil => true
  | _ => false
def Er.num : Er → Int
  | .nil => 0
  | .eof => 1
  | _ => 2
structure Lx where
  d : List Int
  start : Nat
  pos : Nat
  kind : Nat
  bv : Bool
  cl : Bool
  tok : List Int
  delim : Int
  fst : Bool
  sep : Int
  multi : Bool
  err : Er
  errs : List Nat
namespace Lx
def ok (x : Lx) : Bool := x.err.isNil
def fail (x : Lx) : Lx := if x.ok then { x with err := .lex x.pos } else x
def consume (x : Lx) : Lx := { x with kind := 0, cl := false, delim := 0 }
end Lx
def isBl (c : Int) : Bool := c == 32 || c == 9 || c == 13 || c == 10
def isEndB (c : Int) : Bool := isBl c || c == 91 || c == 93 || c == 123 || c == 125 || c == 44 || c == 58
def isDig (c : Int) : Bool := decide (48 ≤ c) && decide (c ≤ 57)
def headEnd : List Int → Bool
  | [] => true
  | c :: _ => isEndB c
def wordAt (d : List Int) (p : Nat) (ws : List Int) : Bool :=
  (d.drop (p + 1)).take ws.length == ws && headEnd (d.drop (p + 1 + ws.length))
namespace Lx
def word (x : Lx) (ws : List Int) : Lx := if wordAt x.d x.pos ws then { x with pos := x.pos + 1 + ws.length } else x.fail
end Lx
def numScan : List Int → Bool → Bool → Bool → Nat × Option Int
  | [], _, _, _ => (0, none)
  | c :: cs, e, a, t =>
    if isDig c then ((numScan cs e false t).1 + 1, (numScan cs e false t).2)
    else if c == 46 && !t then ((numScan cs e a true).1 + 1, (numScan cs e a true).2)
    else if (c == 101 || c == 69) && !e then ((numScan cs true true true).1 + 1, (numScan cs true true true).2)
    else if (c == 43 || c == 45) && a then ((numScan cs e false t).1 + 1, (numScan cs e false t).2)
    else (0, some c)
namespace Lx
def fetchNumber (x : Lx) : Lx :=
  match numScan (x.d.drop (x.pos + 1)) false false false with
  | (_, none) => { x with pos := x.d.length, tok := x.d.drop x.start }
  | (n, some c) =>
    if isEndB c then { x with pos := x.pos + 1 + n, tok := (x.d.drop x.start).take (x.pos + 1 + n - x.start) }
    else { x with pos := x.pos + 1 + n }.fail
end Lx
def idxOf (c : Int) : List Int → Option Nat
  | [] => none
  | x :: xs => if x == c then some 0 else (idxOf c xs).map (· + 1)
def slashes : List Int → Nat
  | [] => 0
  | x :: xs => if xs.all (· == 92) && x == 92 then xs.length + 1 else slashes xs
def strLen : Nat → List Int → Nat → Bool × Nat
  | 0, data, _ => (false, data.length)
  | f + 1, data, len =>
    match idxOf 34 data with
    | none => (false, data.length)
    | some i => if slashes (data.take i) % 2 == 0 then (true, len + i) else strLen f (data.drop (i + 1)) (len + i + 1)
namespace Lx
def fetchString (x : Lx) : Lx :=
  match strLen (x.d.length + 1) (x.d.drop (x.pos + 1)) 0 with
  | (true, n) => { x with tok := (x.d.drop (x.pos + 1)).take n, pos := x.pos + 1 + n + 1 }
  | (false, n) => { x with pos := x.pos + 1 + n }.fail
def sepFail (x : Lx) : Lx := if x.sep != 0 then x.fail else x
def scan : Lx → List Int → Lx
  | x, [] => { x with err := .eof }
  | x, c :: cs =>
    if c == 58 || c == 44 then
      if x.sep == c then scan { x with pos := x.pos + 1, start := x.start + 1, sep := 0 } cs else scan x.fail cs
    else if isBl c then scan { x with pos := x.pos + 1, start := x.start + 1 } cs
    else if c == 34 then { x.sepFail with kind := 2 }.fetchString
    else if c == 123 || c == 91 then { x.sepFail with fst := true, kind := 1, delim := x.d.getD x.pos 0, pos := x.pos + 1 }
    else if c == 125 || c == 93 then
      { (if !x.fst && x.sep != 44 then x.fail else x) with sep := 0, kind := 1, delim := x.d.getD x.pos 0, pos := x.pos + 1 }
    else if isDig c || c == 45 then { x.sepFail with kind := 3 }.fetchNumber
    else if c == 110 then { x.sepFail with kind := 5 }.word [117, 108, 108]
    else if c == 116 then { x.sepFail with kind := 4, bv := true }.word [114, 117, 101]
    else if c == 102 then { x.sepFail with kind := 4, bv := false }.word [97, 108, 115, 101]
    else x.fail
def fetch (x : Lx) : Lx := scan { x with kind := 0, start := x.pos } (x.d.drop x.pos)
def peek (x : Lx) : Lx := if x.kind == 0 && x.ok then x.fetch else x
end Lx
end Go.Proofs.YtaecbclonmhbcaaGreatDoor

namespace Go.Proofs.YtaecbclonmhbcaaGreatDoor
open Go.RowKit
structure Env (w : World) (ae : Sur) (ao : Addr) : Prop where
  eof : w.cell? ⟨1, 0, none⟩ = some (.iface 191 (.pointer (some ae.addr)))
  other : w.cell? ⟨0, 0, none⟩ = some (.iface 191 (.pointer (some ao)))
  ne : ae.addr ≠ ao
def ErrAt (w : World) (nb : Nat) (ae : Sur) (ao : Addr) (v : Value) : Er → Prop
  | .nil => v = .nilIface
  | .eof => v = .iface 191 (.pointer (some ae.addr))
  | .other => v = .iface 191 (.pointer (some ao))
  | .lex n => ∃ (k : Nat) (s t : ByteArray), v = .iface 60 (.pointer (some ⟨k, 0, none⟩)) ∧ ¬ ae.off nb k ∧ w.heap[k]? = some (.cells #[.string s, .int .i64 n, .string t] 66 (0, 0))
theorem ErrAt.kept {w w' : World} {nb : Nat} {ae : Sur} {ao : Addr} {v : Value} {e : Er} (h : ErrAt w nb ae ao v e) (hk : Kept nb w w') : ErrAt w' nb ae ao v e := by
  cases e <;> simp only [ErrAt] at h ⊢ <;> try exact h
  obtain ⟨k, s, t, hv, hn, hh⟩ := h
  exact ⟨k, s, t, hv, hn, hk.heap hh fun e => hn (.inl e)⟩
def lxCells (vd : Value) (x : Lx) (vt ve vm : Value) : Array Value :=
  #[vd, .int .i64 x.start, .int .i64 x.pos, .int .u8 x.kind, .bool x.bv, .bool x.cl, vt, .int .u8 x.delim, .bool x.fst, .int .u8 x.sep, .bool x.multi, ve, vm]
structure LexAt (w : World) (b : Nat) (ae : Sur) (ao : Addr) (x : Lx) (vd vt ve vm : Value) : Prop where
  heap : w.heap[b]? = some (.cells (lxCells vd x vt ve vm) 83 (0, 0))
  data : BytesAt w (ae.off b) vd x.d
  tok : BytesAt w (ae.off b) vt x.tok
  err : ErrAt w b ae ao ve x.err
  env : Env w ae ao
  b2 : 1 < b
  held : ∀ k, ae.held k → k < w.heap.size
theorem Env.kept {w w' : World} {nb : Nat} {ae : Sur} {ao : Addr} (h : Env w ae ao) (hk : Kept nb w w') (hb : 1 < nb) : Env w' ae ao :=
  ⟨hk.cell h.eof (by simp; omega), hk.cell h.other (by simp; omega), h.ne⟩
section
variable {w w' : World} {b : Nat} {ae : Sur} {ao : Addr} {x : Lx} {vd vt ve vm : Value}
theorem LexAt.c0 (h : LexAt w b ae ao x vd vt ve vm) : w.cell? ⟨b, 0, none⟩ = some vd := cell_of_heap h.heap 0 rfl
theorem LexAt.c1 (h : LexAt w b ae ao x vd vt ve vm) : w.cell? ⟨b, 1, none⟩ = some (.int .i64 x.start) := cell_of_heap h.heap 1 rfl
theorem LexAt.c2 (h : LexAt w b ae ao x vd vt ve vm) : w.cell? ⟨b, 2, none⟩ = some (.int .i64 x.pos) := cell_of_heap h.heap 2 rfl
theorem LexAt.c3 (h : LexAt w b ae ao x vd vt ve vm) : w.cell? ⟨b, 3, none⟩ = some (.int .u8 x.kind) := cell_of_heap h.heap 3 rfl
theorem LexAt.c4 (h : LexAt w b ae ao x vd vt ve vm) : w.cell? ⟨b, 4, none⟩ = some (.bool x.bv) := cell_of_heap h.heap 4 rfl
theorem LexAt.c5 (h : LexAt w b ae ao x vd vt ve vm) : w.cell? ⟨b, 5, none⟩ = some (.bool x.cl) := cell_of_heap h.heap 5 rfl
theorem LexAt.c6 (h : LexAt w b ae ao x vd vt ve vm) : w.cell? ⟨b, 6, none⟩ = some vt := cell_of_heap h.heap 6 rfl
theorem LexAt.c7 (h : LexAt w b ae ao x vd vt ve vm) : w.cell? ⟨b, 7, none⟩ = some (.int .u8 x.delim) := cell_of_heap h.heap 7 rfl
theorem LexAt.c8 (h : LexAt w b ae ao x vd vt ve vm) : w.cell? ⟨b, 8, none⟩ = some (.bool x.fst) := cell_of_heap h.heap 8 rfl
theorem LexAt.c9 (h : LexAt w b ae ao x vd vt ve vm) : w.cell? ⟨b, 9, none⟩ = some (.int .u8 x.sep) := cell_of_heap h.heap 9 rfl
theorem LexAt.c10 (h : LexAt w b ae ao x vd vt ve vm) : w.cell? ⟨b, 10, none⟩ = some (.bool x.multi) := cell_of_heap h.heap 10 rfl
theorem LexAt.c11 (h : LexAt w b ae ao x vd vt ve vm) : w.cell? ⟨b, 11, none⟩ = some ve := cell_of_heap h.heap 11 rfl
theorem LexAt.free (h : LexAt w b ae ao x vd vt ve vm) (i : Nat) : w.frozen? ⟨b, i, none⟩ = false := free_of_heap h.heap i
theorem LexAt.lt (h : LexAt w b ae ao x vd vt ve vm) : b < w.heap.size := lt_heap h.heap
theorem LexAt.fresh (h : LexAt w b ae ao x vd vt ve vm) : ¬ ae.off b w.heap.size := by
  rintro (e | e)
  · have := h.lt; omega
  · have := h.held _ e; omega
theorem LexAt.into (h : LexAt w b ae ao x vd vt ve vm) (hk : Kept b w w') {x' : Lx} {vt' ve' vm' : Value} (hd : x'.d = x.d)
    (hh : w'.heap[b]? = some (.cells (lxCells vd x' vt' ve' vm') 83 (0, 0))) (ht : BytesAt w' (ae.off b) vt' x'.tok) (he : ErrAt w' b ae ao ve' x'.err) : LexAt w' b ae ao x' vd vt' ve' vm' :=
  ⟨hh, by rw [hd]; exact h.data.kept hk, ht, he, h.env.kept hk h.b2, h.b2, fun k a => Nat.lt_of_lt_of_le (h.held k a) hk.size⟩
theorem LexAt.drewN (h : LexAt w b ae ao x vd vt ve vm) (n : Nat) : LexAt (w.drewN n) b ae ao x vd vt ve vm :=
  h.into ((Kept.refl b w).drewN n) rfl h.heap (h.tok.kept ((Kept.refl b w).drewN n)) (h.err.kept ((Kept.refl b w).drewN n))
theorem LexAt.set (h : LexAt w b ae ao x vd vt ve vm) (i : Nat) (v : Value) {x' : Lx} (hc : (lxCells vd x vt ve vm).setIfInBounds i v = lxCells vd x' vt ve vm)
    (hd : x'.d = x.d) (ht : x'.tok = x.tok) (he : x'.err = x.err) : LexAt (w.setCell ⟨b, i, none⟩ v) b ae ao x' vd vt ve vm := by
  have hk := (Kept.refl b w).setCell i v
  refine h.into hk hd ?_ (by rw [ht]; exact h.tok.kept hk) (by rw [he]; exact h.err.kept hk)
  rw [heap_setCell h.heap i v, hc]
theorem LexAt.setStart (h : LexAt w b ae ao x vd vt ve vm) (n : Nat) : LexAt (w.setCell ⟨b, 1, none⟩ (.int .i64 n)) b ae ao { x with start := n } vd vt ve vm := h.set 1 _ rfl rfl rfl rfl
theorem LexAt.setPos (h : LexAt w b ae ao x vd vt ve vm) (n : Nat) : LexAt (w.setCell ⟨b, 2, none⟩ (.int .i64 n)) b ae ao { x with pos := n } vd vt ve vm := h.set 2 _ rfl rfl rfl rfl
theorem LexAt.setKind (h : LexAt w b ae ao x vd vt ve vm) (n : Nat) : LexAt (w.setCell ⟨b, 3, none⟩ (.int .u8 n)) b ae ao { x with kind := n } vd vt ve vm := h.set 3 _ rfl rfl rfl rfl
theorem LexAt.setBv (h : LexAt w b ae ao x vd vt ve vm) (n : Bool) : LexAt (w.setCell ⟨b, 4, none⟩ (.bool n)) b ae ao { x with bv := n } vd vt ve vm := h.set 4 _ rfl rfl rfl rfl
theorem LexAt.setCl (h : LexAt w b ae ao x vd vt ve vm) (n : Bool) : LexAt (w.setCell ⟨b, 5, none⟩ (.bool n)) b ae ao { x with cl := n } vd vt ve vm := h.set 5 _ rfl rfl rfl rfl
theorem LexAt.setDelim (h : LexAt w b ae ao x vd vt ve vm) (n : Int) : LexAt (w.setCell ⟨b, 7, none⟩ (.int .u8 n)) b ae ao { x with delim := n } vd vt ve vm := h.set 7 _ rfl rfl rfl rfl
theorem LexAt.setFst (h : LexAt w b ae ao x vd vt ve vm) (n : Bool) : LexAt (w.setCell ⟨b, 8, none⟩ (.bool n)) b ae ao { x with fst := n } vd vt ve vm := h.set 8 _ rfl rfl rfl rfl
theorem LexAt.setSep (h : LexAt w b ae ao x vd vt ve vm) (n : Int) : LexAt (w.setCell ⟨b, 9, none⟩ (.int .u8 n)) b ae ao { x with sep := n } vd vt ve vm := h.set 9 _ rfl rfl rfl rfl
theorem LexAt.setErr (h : LexAt w b ae ao x vd vt ve vm) (v : Value) (e : Er) (he : ErrAt (w.setCell ⟨b, 11, none⟩ v) b ae ao v e) : LexAt (w.setCell ⟨b, 11, none⟩ v) b ae ao { x with err := e } vd vt v vm := by
  have hk := (Kept.refl b w).setCell 11 v
  exact h.into hk rfl (by rw [heap_setCell h.heap 11 v]; rfl) (h.tok.kept hk) he
theorem LexAt.setTok (h : LexAt w b ae ao x vd vt ve vm) (v : Value) (l : List Int) (ht : BytesAt (w.setCell ⟨b, 6, none⟩ v) (ae.off b) v l) : LexAt (w.setCell ⟨b, 6, none⟩ v) b ae ao { x with tok := l } vd v ve vm := by
  have hk := (Kept.refl b w).setCell 6 v
  exact h.into hk rfl (by rw [heap_setCell h.heap 6 v]; rfl) ht (h.err.kept hk)
theorem LexAt.alloc (h : LexAt w b ae ao x vd vt ve vm) (o : Obj) : LexAt (w.alloc o) b ae ao x vd vt ve vm := by
  have hk := (Kept.refl b w).alloc o
  exact h.into hk rfl (by rw [heap_alloc_lt h.lt]; exact h.heap) (h.tok.kept hk) (h.err.kept hk)
end
section
variable {w : World} {b : Nat} {ae : Sur} {ao : Addr} {x : Lx} {vd vt ve vm : Value}
set_option maxHeartbeats 400000 in
theorem consume_any (h : LexAt w b ae ao x vd vt ve vm) :
    Calls Tryz.prog 104 #[.pointer (some ⟨b, 0, none⟩)] w fun e w' => e = .returned (.tuple #[]) ∧ LexAt w' b ae ao x.consume vd vt ve vm ∧ Kept b w w' := by
  have c3 := h.c3
  have c5 := h.c5
  have c7 := h.c7
  have f3 := h.free 3
  have f5 := h.free 5
  have f7 := h.free 7
  go_enter Tryz.func104, Tryz.ntmps104
  go_wp2
  go_end0
  exact ⟨rfl, ((h.setKind 0).setCl false).setDelim 0, (((Kept.refl b w).setCell 3 _).setCell 5 _).setCell 7 _⟩
set_option maxHeartbeats 400000 in
theorem ok_any (h : LexAt w b ae ao x vd vt ve vm) :
    Calls Tryz.prog 47 #[.pointer (some ⟨b, 0, none⟩)] w fun e w' => e = .returned (.bool x.ok) ∧ w = w' := by
  have c11 := h.c11
  have he := h.err
  have hx : x.ok = x.err.isNil := rfl
  rw [hx]
  clear h hx
  cases hxe : x.err <;> rw [hxe] at he <;> simp only [ErrAt] at he <;> clear hxe
  case lex n => obtain ⟨k, s, t, rfl, -, -⟩ := he; go_enter Tryz.func47, Tryz.ntmps47; go_wp2; go_ret; exact ⟨rfl, rfl⟩
  all_goals (subst he; go_enter Tryz.func47, Tryz.ntmps47; go_wp2; go_ret; exact ⟨rfl, rfl⟩)
end
end Go.Proofs.YtaecbclonmhbcaaGreatDoor

namespace Go.Proofs.YtaecbclonmhbcaaGreatDoor
open Go.RowKit
theorem run_bytes_str {w : World} {A : Nat → Prop} {v : Value} {xs : List Int} (h : BytesAt w A v xs) (m : Nat) :
    ∀ dst, Tryz.prog.underlying dst = some .string → (convert 22 dst v).run Tryz.prog (w.drewN m) = .ok (.string (strOfNums xs)) (w.drewN m) := by
  intro dst hd
  rcases h with ⟨rfl, rfl⟩ | ⟨b, o, cap, rfl, hc, hn, hx⟩
  · exact run_convert_bytes_nil _ 22 5 Tryz.underlying22 Tryz.underlying5 _ _ dst hd
  · exact run_convert_bytes_arg (w.drewN m) 22 5 Tryz.underlying22 Tryz.underlying5 b o _ _ xs rfl hx dst hd
section
variable {w : World} {b : Nat} {ae : Sur} {ao : Addr} {x : Lx} {vd vt ve vm : Value}
theorem LexAt.bytes (h : LexAt w b ae ao x vd vt ve vm) (hp : 0 < x.d.length) :
    ∃ bd o cap, vd = .slice (some ⟨bd, o, none⟩) x.d.length cap ∧ x.d.length ≤ cap ∧ bd ≠ b ∧ ∀ i, i < x.d.length → w.cell? ⟨bd, o + i, none⟩ = some (.int .u8 (x.d.getD i 0)) := by
  rcases h.data with ⟨h0, -⟩ | ⟨bd, o, cap, rfl, hc, hne, hx⟩
  · rw [h0] at hp; simp at hp
  · exact ⟨bd, o, cap, rfl, hc, fun e => hne.1 (.inl e), hx⟩
theorem LexAt.shape (h : LexAt w b ae ao x vd vt ve vm) : ∃ p cap, vd = .slice p x.d.length cap := by
  rcases h.data with ⟨h0, rfl⟩ | ⟨bd, o, cap, rfl, -⟩
  · exact ⟨none, 0, by rw [h0]; rfl⟩
  · exact ⟨_, cap, rfl⟩
theorem LexAt.newErr (h : LexAt w b ae ao x vd vt ve vm) (s t : ByteArray) (n : Nat) (m : Nat) :
    LexAt (((w.drewN m).alloc (.cells #[.string s, .int .i64 n, .string t] 66)).setCell ⟨b, 11, none⟩ (.iface 60 (.pointer (some ⟨w.heap.size, 0, none⟩)))) b ae ao { x with err := .lex n } vd vt (.iface 60 (.pointer (some ⟨w.heap.size, 0, none⟩))) vm := by
  have hb := h.lt
  refine ((h.drewN m).alloc _).setErr _ (.lex n) ⟨w.heap.size, s, t, rfl, h.fresh, ?_⟩
  rw [heap_setCell_other 11 _ (by omega)]
  exact heap_alloc_new (w.drewN m) _
set_option maxHeartbeats 400000 in
theorem errParse_held (h : LexAt w b ae ao x vd vt ve vm) (hx : x.ok = false) (s : ByteArray) :
    Calls Tryz.prog 117 #[.pointer (some ⟨b, 0, none⟩), .string s] w fun e w' => e = .returned (.tuple #[]) ∧ w = w' := by
  have c11 := h.c11
  have he := h.err
  have hx' : x.err.isNil = false := hx
  clear h hx
  cases hxe : x.err <;> rw [hxe] at he hx' <;> simp only [ErrAt, Er.isNil, Bool.true_eq_false] at he hx' <;> clear hxe
  case lex n => obtain ⟨k, s, t, rfl, -, -⟩ := he; go_enter Tryz.func117, Tryz.ntmps117; go_wp2; go_end0; exact ⟨rfl, rfl⟩
  all_goals (subst he; go_enter Tryz.func117, Tryz.ntmps117; go_wp2; go_end0; exact ⟨rfl, rfl⟩)
def Failed (w : World) (b : Nat) (ae : Sur) (ao : Addr) (x : Lx) (vd vt vm : Value) (w' : World) : Prop := ∃ ve', LexAt w' b ae ao x vd vt ve' vm ∧ Kept b w w'
set_option maxHeartbeats 400000 in
theorem errParse_short_at (p : Option Addr) (cap : Nat) (h : LexAt w b ae ao x (.slice p x.d.length cap) vt ve vm) (hx : x.ok = true) (s : ByteArray) (hn : x.d.length ≤ 1073741824) (hp : x.pos ≤ x.d.length) (hs : x.d.length - x.pos ≤ 13) :
    Calls Tryz.prog 117 #[.pointer (some ⟨b, 0, none⟩), .string s] w fun e w' => e = .returned (.tuple #[]) ∧ Failed w b ae ao { x with err := .lex x.pos } (.slice p x.d.length cap) vt vm w' := by
  have c11 := h.c11
  have c0 := h.c0
  have c2 := h.c2
  have f11 := h.free 11
  have hlt := h.lt
  have hve : ve = .nilIface := by
    have he := h.err
    have hx' : x.err.isNil = true := hx
    cases hxe : x.err <;> rw [hxe] at he hx' <;> simp only [ErrAt, Er.isNil, Bool.false_eq_true] at he hx'
    exact he
  rw [hve] at c11
  have hd : decide ((x.d.length : Int) - x.pos ≤ 13) = true := by simp; omega
  have hcv := run_bytes_str h.data
  have had : ∀ (n : Nat) (O : Obj), (w.drewN n).alloc O = (w.alloc O).drewN n := fun _ _ => rfl
  have H := Lib.hid h
  clear h hve hx
  go_enter Tryz.func117, Tryz.ntmps117
  go_wp2
  go_quiet (fail)
  go_wp2
  go_end0
  exact ⟨rfl, _, H.out.newErr s _ _ _, (((Kept.refl b w).drewN _).alloc _).setCell 11 _⟩
theorem errParse_short (h : LexAt w b ae ao x vd vt ve vm) (hx : x.ok = true) (s : ByteArray) (hn : x.d.length ≤ 1073741824) (hp : x.pos ≤ x.d.length) (hs : x.d.length - x.pos ≤ 13) :
    Calls Tryz.prog 117 #[.pointer (some ⟨b, 0, none⟩), .string s] w fun e w' => e = .returned (.tuple #[]) ∧ Failed w b ae ao { x with err := .lex x.pos } vd vt vm w' := by
  obtain ⟨p, cap, rfl⟩ := h.shape
  exact errParse_short_at p cap h hx s hn hp hs
set_option maxHeartbeats 400000 in
theorem errParse_long (h : LexAt w b ae ao x vd vt ve vm) (hx : x.ok = true) (s : ByteArray) (hn : x.d.length ≤ 1073741824) (hs : x.pos + 13 < x.d.length) :
    Calls Tryz.prog 117 #[.pointer (some ⟨b, 0, none⟩), .string s] w fun e w' => e = .returned (.tuple #[]) ∧ Failed w b ae ao { x with err := .lex x.pos } vd vt vm w' := by
  have c11 := h.c11
  have c0 := h.c0
  have c2 := h.c2
  have f11 := h.free 11
  have hlt := h.lt
  have hve : ve = .nilIface := by
    have he := h.err
    have hx' : x.err.isNil = true := hx
    cases hxe : x.err <;> rw [hxe] at he hx' <;> simp only [ErrAt, Er.isNil, Bool.false_eq_true] at he hx'
    exact he
  rw [hve] at c11
  obtain ⟨bd, o, cap, rfl, hc, hne, hcell⟩ := h.bytes (by omega)
  have hd : decide ((x.d.length : Int) - x.pos ≤ 13) = false := by simp; omega
  obtain ⟨sv, hcv, hsz⟩ : ∃ sv : ByteArray, (∀ (m cp : Nat) (dst : TypeId), Tryz.prog.underlying dst = some .string → (convert 22 dst (.slice (some ⟨bd, o + x.pos, none⟩) 10 cp)).run Tryz.prog (w.drewN m) = .ok (.string sv) (w.drewN m)) ∧ sv.size ≤ 10 :=
    ⟨strOfNums ((x.d.drop x.pos).take 10), fun m cp =>
    run_convert_bytes_arg (w.drewN m) 22 5 Tryz.underlying22 Tryz.underlying5 bd (o + x.pos) 10 cp ((x.d.drop x.pos).take 10) (by simp; omega) (fun i hi => by
      have := hcell (x.pos + i) (by omega)
      rw [← Nat.add_assoc] at this
      show w.cell? _ = _
      rw [this]
      simp [List.getD, hi]), by rw [strOfNums_size]; simp; omega⟩
  have had : ∀ (n : Nat) (O : Obj), (w.drewN n).alloc O = (w.alloc O).drewN n := fun _ _ => rfl
  have H := Lib.hid h
  clear h hve hx
  have s1 : IntKind.i64.wrap ((x.pos : Int) + 13) = (x.pos : Int) + 13 := IntWalk.i64_in _ (by omega)
  have s2 : IntKind.i64.wrap ((x.pos : Int) + 13 - 3) = (x.pos : Int) + 10 := by rw [IntWalk.i64_in _ (by omega)]; omega
  have s3 : ((x.pos : Int) + 10).toNat = x.pos + 10 := by omega
  have s4 : (0 : Int) ≤ (x.pos : Int) + 10 := by omega
  have s5 : (x.pos : Int) + 10 ≤ (cap : Int) := by omega
  have s6 : (x.pos : Int) ≤ (x.pos : Int) + 10 := by omega
  have s7 : x.pos + 10 - x.pos = 10 := by omega
  have s8 : ¬ cap = x.pos := by omega
  go_enter Tryz.func117, Tryz.ntmps117
  go_wp2
  go_quiet (fail)
  go_wp2
  go_quiet (fail)
  go_wp2
  go_end0
  exact ⟨rfl, _, H.out.newErr s _ _ _, (((Kept.refl b w).drewN _).alloc _).setCell 11 _⟩
end
end Go.Proofs.YtaecbclonmhbcaaGreatDoor

namespace Go.Proofs.YtaecbclonmhbcaaGreatDoor
open Go.RowKit
theorem getD_drop (l : List Int) (p i : Nat) : (l.drop p).getD i 0 = l.getD (p + i) 0 := by simp [List.getD]
theorem drop_cons_getD (l : List Int) (p : Nat) (h : p < l.length) : l.drop p = l.getD p 0 :: l.drop (p + 1) := by
  rw [List.drop_eq_getElem_cons h]; simp [List.getD, List.getElem?_eq_getElem h]
theorem wordAt3_short (d : List Int) (p : Nat) (a b c : Int) (h : d.length < p + 4) : wordAt d p [a, b, c] = false := by
  have : ((d.drop (p + 1)).take 3).length < 3 := by simp; omega
  simp only [wordAt, List.length_cons, List.length_nil, Nat.zero_add, Nat.reduceAdd, Bool.and_eq_false_imp, beq_iff_eq]
  intro he; rw [he] at this; simp at this
theorem wordAt3 (d : List Int) (p : Nat) (a b c : Int) (h : p + 4 ≤ d.length) :
    wordAt d p [a, b, c] = (d.getD (p + 1) 0 == a && (d.getD (p + 2) 0 == b && (d.getD (p + 3) 0 == c && (decide (p + 4 = d.length) || isEndB (d.getD (p + 4) 0))))) := by
  have h1 : d.drop (p + 1) = d.getD (p + 1) 0 :: d.getD (p + 2) 0 :: d.getD (p + 3) 0 :: d.drop (p + 4) := by
    rw [drop_cons_getD d (p + 1) (by omega), drop_cons_getD d (p + 2) (by omega), drop_cons_getD d (p + 3) (by omega)]
  have h2 : headEnd (d.drop (p + 4)) = (decide (p + 4 = d.length) || isEndB (d.getD (p + 4) 0)) := by
    by_cases he : p + 4 = d.length
    · rw [List.drop_eq_nil_of_le (by omega)]; simp [he, headEnd]
    · rw [drop_cons_getD d (p + 4) (by omega)]; simp [he, headEnd]
  simp only [wordAt, h1, List.length_cons, List.length_nil, Nat.zero_add, Nat.reduceAdd, List.take_succ_cons, List.take_zero]
  rw [show p + 1 + 3 = p + 4 from by omega, h2]
  simp [Bool.and_assoc]
theorem wordAt4_short (d : List Int) (p : Nat) (a b c e : Int) (h : d.length < p + 5) : wordAt d p [a, b, c, e] = false := by
  have : ((d.drop (p + 1)).take 4).length < 4 := by simp; omega
  simp only [wordAt, List.length_cons, List.length_nil, Nat.zero_add, Nat.reduceAdd, Bool.and_eq_false_imp, beq_iff_eq]
  intro he; rw [he] at this; simp at this
theorem wordAt4 (d : List Int) (p : Nat) (a b c e : Int) (h : p + 5 ≤ d.length) :
    wordAt d p [a, b, c, e] = (d.getD (p + 1) 0 == a && (d.getD (p + 2) 0 == b && (d.getD (p + 3) 0 == c && (d.getD (p + 4) 0 == e && (decide (p + 5 = d.length) || isEndB (d.getD (p + 5) 0)))))) := by
  have h1 : d.drop (p + 1) = d.getD (p + 1) 0 :: d.getD (p + 2) 0 :: d.getD (p + 3) 0 :: d.getD (p + 4) 0 :: d.drop (p + 5) := by
    rw [drop_cons_getD d (p + 1) (by omega), drop_cons_getD d (p + 2) (by omega), drop_cons_getD d (p + 3) (by omega), drop_cons_getD d (p + 4) (by omega)]
  have h2 : headEnd (d.drop (p + 5)) = (decide (p + 5 = d.length) || isEndB (d.getD (p + 5) 0)) := by
    by_cases he : p + 5 = d.length
    · rw [List.drop_eq_nil_of_le (by omega)]; simp [he, headEnd]
    · rw [drop_cons_getD d (p + 5) (by omega)]; simp [he, headEnd]
  simp only [wordAt, h1, List.length_cons, List.length_nil, Nat.zero_add, Nat.reduceAdd, List.take_succ_cons, List.take_zero]
  rw [show p + 1 + 4 = p + 5 from by omega, h2]
  simp [Bool.and_assoc]
set_option maxHeartbeats 1000000 in
theorem isEnd_any (c : Int) (w : World) : Calls Tryz.prog 145 #[.int .u8 c] w fun e w' => e = .returned (.bool (isEndB c)) ∧ w = w' := by
  by_cases h0 : c = 32
  · subst h0; go_enter Tryz.func145, Tryz.ntmps145; go_wp2; go_ret; exact ⟨rfl, rfl⟩
  by_cases h1 : c = 9
  · subst h1; go_enter Tryz.func145, Tryz.ntmps145; go_wp2; go_ret; exact ⟨rfl, rfl⟩
  by_cases h2 : c = 13
  · subst h2; go_enter Tryz.func145, Tryz.ntmps145; go_wp2; go_ret; exact ⟨rfl, rfl⟩
  by_cases h3 : c = 10
  · subst h3; go_enter Tryz.func145, Tryz.ntmps145; go_wp2; go_ret; exact ⟨rfl, rfl⟩
  by_cases h4 : c = 91
  · subst h4; go_enter Tryz.func145, Tryz.ntmps145; go_wp2; go_ret; exact ⟨rfl, rfl⟩
  by_cases h5 : c = 93
  · subst h5; go_enter Tryz.func145, Tryz.ntmps145; go_wp2; go_ret; exact ⟨rfl, rfl⟩
  by_cases h6 : c = 123
  · subst h6; go_enter Tryz.func145, Tryz.ntmps145; go_wp2; go_ret; exact ⟨rfl, rfl⟩
  by_cases h7 : c = 125
  · subst h7; go_enter Tryz.func145, Tryz.ntmps145; go_wp2; go_ret; exact ⟨rfl, rfl⟩
  by_cases h8 : c = 44
  · subst h8; go_enter Tryz.func145, Tryz.ntmps145; go_wp2; go_ret; exact ⟨rfl, rfl⟩
  by_cases h9 : c = 58
  · subst h9; go_enter Tryz.func145, Tryz.ntmps145; go_wp2; go_ret; exact ⟨rfl, rfl⟩
  go_enter Tryz.func145, Tryz.ntmps145
  go_wp2
  go_ret
  exact ⟨rfl, rfl⟩
theorem isEnd_quiet (c : Int) (w : World) (n : Nat) : Calls Tryz.prog 145 #[.int .u8 c] (w.drewN n) fun e w' => e = .returned (.bool (isEndB c)) ∧ ∃ m, w' = w.drewN m :=
  (isEnd_any c (w.drewN n)).mono fun _ _ ⟨he, hw⟩ => ⟨he, n, hw.symm⟩
section
variable {w : World} {b : Nat} {ae : Sur} {ao : Addr} {x : Lx} {vd vt ve vm : Value}
structure Lx.Wf (x : Lx) : Prop where
  len : x.d.length ≤ 1073741824
  pos : x.pos ≤ x.d.length
  start : x.start ≤ x.pos
  byte : ∀ i, 0 ≤ x.d.getD i 0 ∧ x.d.getD i 0 ≤ 255
theorem errParse_any (h : LexAt w b ae ao x vd vt ve vm) (hw : x.Wf) (s : ByteArray) :
    Calls Tryz.prog 117 #[.pointer (some ⟨b, 0, none⟩), .string s] w fun e w' => e = .returned (.tuple #[]) ∧ Failed w b ae ao x.fail vd vt vm w' := by
  unfold Lx.fail
  cases hx : x.ok with
  | false =>
    refine (errParse_held h hx s).mono ?_
    rintro e w' ⟨he, rfl⟩
    exact ⟨he, _, h, Kept.refl b w⟩
  | true =>
    by_cases hs : x.d.length - x.pos ≤ 13
    · exact errParse_short h hx s hw.len hw.pos hs
    · exact errParse_long h hx s hw.len (by omega)
set_option maxHeartbeats 400000 in
theorem errSyntax_any (h : LexAt w b ae ao x vd vt ve vm) (hw : x.Wf) :
    Calls Tryz.prog 118 #[.pointer (some ⟨b, 0, none⟩)] w fun e w' => e = .returned (.tuple #[]) ∧ Failed w b ae ao x.fail vd vt vm w' := by
  have C := errParse_any h hw
  go_enter Tryz.func118, Tryz.ntmps118
  go_wp2_with (go_at_call 117; refine (C _).mono ?_; rintro e w' ⟨rfl, hf⟩)
  go_end0
  exact ⟨rfl, hf⟩
end
end Go.Proofs.YtaecbclonmhbcaaGreatDoor

namespace Go.Proofs.YtaecbclonmhbcaaGreatDoor
open Go.RowKit
def idxI (c : Int) (xs : List Int) : Int := match idxOf c xs with | some i => (i : Int) | none => -1
def Bytes (xs : List Int) : Prop := ∀ i, 0 ≤ xs.getD i 0 ∧ xs.getD i 0 ≤ 255
theorem Bytes.drop {xs : List Int} (h : Bytes xs) (n : Nat) : Bytes (xs.drop n) := fun i => by rw [getD_drop]; exact h _
theorem Bytes.tail {x : Int} {xs : List Int} (h : Bytes (x :: xs)) : Bytes xs := fun i => by simpa using h (i + 1)
theorem beq_byte {x c : Int} (hx : 0 ≤ x ∧ x ≤ 255) (hc : 0 ≤ c ∧ c ≤ 255) : (UInt8.ofNat x.toNat == c.toNat.toUInt8) = (x == c) := by
  rw [Bool.eq_iff_iff]
  simp only [beq_iff_eq]
  constructor
  · intro h
    have := congrArg UInt8.toNat h
    simp at this
    omega
  · rintro rfl; rfl
theorem indexByte_idxI (c : Int) (hc : 0 ≤ c ∧ c ≤ 255) : ∀ xs : List Int, Bytes xs → Lib.indexByte (Lib.bytesOf xs) c.toNat.toUInt8 = idxI c xs
  | [], _ => rfl
  | x :: xs, h => by
    have ih := indexByte_idxI c hc xs h.tail
    have hx : 0 ≤ x ∧ x ≤ 255 := by simpa using h 0
    simp only [Lib.bytesOf, List.map_cons, Lib.indexByte, idxI, idxOf] at ih ⊢
    rw [beq_byte hx hc]
    by_cases he : x = c
    · simp [he]
    · simp only [beq_eq_false_iff_ne.2 he, Bool.false_eq_true, if_false]
      rw [ih]
      cases idxOf c xs with
      | none => rfl
      | some i => simp <;> omega
theorem idxOf_lt {c : Int} : ∀ {xs : List Int} {i : Nat}, idxOf c xs = some i → i < xs.length ∧ xs.getD i 0 = c
  | [], i, h => by simp [idxOf] at h
  | x :: xs, i, h => by
    simp only [idxOf] at h
    by_cases he : x = c
    · simp [he] at h; subst h; simp [he]
    · simp only [beq_eq_false_iff_ne.2 he, Bool.false_eq_true, if_false] at h
      cases hx : idxOf c xs with
      | none => rw [hx] at h; simp at h
      | some j =>
        rw [hx] at h; simp at h; subst h
        obtain ⟨h1, h2⟩ := idxOf_lt hx
        simp at h2 ⊢
        exact ⟨h1, h2⟩
theorem slashes_snoc (xs : List Int) (c : Int) : slashes (xs ++ [c]) = if c == 92 then slashes xs + 1 else 0 := by
  induction xs with
  | nil => by_cases h : c = 92 <;> simp [slashes, h]
  | cons x xs ih =>
    simp only [List.cons_append, slashes, List.all_append, List.all_cons, List.all_nil, Bool.and_true, List.length_append, List.length_cons, List.length_nil]
    rw [ih]
    by_cases h : c = 92
    · simp only [h, beq_self_eq_true, Bool.and_true, if_true]
      split <;> simp
    · simp [h]
theorem take_snoc' (xs : List Int) (k : Nat) (h : k < xs.length) : xs.take (k + 1) = xs.take k ++ [xs.getD k 0] := by
  rw [List.take_succ_eq_append_getElem h]; simp [List.getD, List.getElem?_eq_getElem h]
def Seen (xs : List Int) (i n : Nat) : Prop := n ≤ i ∧ slashes (xs.take i) = slashes (xs.take (i - n)) + n
theorem Seen.start (xs : List Int) (i : Nat) : Seen xs i 0 := ⟨Nat.zero_le _, rfl⟩
theorem Seen.next {xs : List Int} {i n : Nat} (h : Seen xs i n) (hi : i ≤ xs.length) (hn : n < i) (hc : xs.getD (i - n - 1) 0 = 92) : Seen xs i (n + 1) := by
  refine ⟨hn, ?_⟩
  rw [h.2]
  have e : i - n = (i - (n + 1)) + 1 := by omega
  rw [e, take_snoc' xs _ (by omega), show i - (n + 1) = i - n - 1 from by omega, slashes_snoc, hc]
  simp; omega
theorem Seen.stop {xs : List Int} {i n : Nat} (h : Seen xs i n) (hi : i ≤ xs.length) (hn : n < i) (hc : xs.getD (i - n - 1) 0 ≠ 92) : slashes (xs.take i) = n := by
  rw [h.2]
  have e : i - n = (i - n - 1) + 1 := by omega
  rw [e, take_snoc' xs _ (by omega), slashes_snoc, if_neg (by simpa using hc)]
  omega
theorem Seen.all {xs : List Int} {i : Nat} (h : Seen xs i i) : slashes (xs.take i) = i := by
  rw [h.2]; simp [slashes]
set_option maxHeartbeats 1000000 in
set_option maxRecDepth 100000 in
theorem indexByte_at (b o n cap : Nat) (xs : List Int) (cv : Int) (w : World) (hx : xs.length = n) (hB : Bytes xs) (hcv : 0 ≤ cv ∧ cv ≤ 255)
    (hc : ∀ i, i < n → w.cell? ⟨b, o + i, none⟩ = some (.int .u8 (xs.getD i 0))) :
    Calls Tryz.prog 132 #[.slice (some ⟨b, o, none⟩) n cap, .int .u8 cv] w fun e w' => e = .returned (.int .i64 (idxI cv xs)) ∧ w = w' := by
  rw [← indexByte_idxI cv hcv xs hB]
  have hrun := Lib.run_indexByteSlice (P := Tryz.prog) w b o n cap xs hx hc cv
  have HH := Lib.hid hrun
  have HC := Lib.hid hc
  clear hc hrun
  go_enter Tryz.func132, Tryz.ntmps132
  go_wp2
  rw [run_callFunc_extern Tryz.func154 (by kernel_rfl) (by kernel_rfl) (by kernel_rfl) (e := Extern.BytealgIndexByte.indexByte) (by kernel_rfl), HH.out]
  simp only [Result.andThen]
  rw [Oper.upon_value]
  go_wp2
  go_ret
  exact ⟨rfl, rfl⟩
set_option maxHeartbeats 1000000 in
set_option maxRecDepth 100000 in
theorem indexByte_none (cv : Int) (w : World) :
    Calls Tryz.prog 132 #[.slice none 0 0, .int .u8 cv] w fun e w' => e = .returned (.int .i64 (-1)) ∧ w = w' := by
  go_enter Tryz.func132, Tryz.ntmps132
  go_wp2
  rw [run_callFunc_extern Tryz.func154 (by kernel_rfl) (by kernel_rfl) (by kernel_rfl) (e := Extern.BytealgIndexByte.indexByte) (by kernel_rfl), Lib.run_indexByteNil w 0 0 cv]
  simp only [Result.andThen]
  rw [Oper.upon_value]
  go_wp2
  go_ret
  exact ⟨rfl, rfl⟩
end Go.Proofs.YtaecbclonmhbcaaGreatDoor

namespace Go.Proofs.YtaecbclonmhbcaaGreatDoor
open Go.RowKit
theorem strLen_fuel : ∀ (f g : Nat) (data : List Int) (len : Nat), data.length < f → data.length < g → strLen f data len = strLen g data len
  | 0, _, _, _, h, _ => absurd h (Nat.not_lt_zero _)
  | _ + 1, 0, _, _, _, h => absurd h (Nat.not_lt_zero _)
  | f + 1, g + 1, data, len, hf, hg => by
    simp only [strLen]
    cases h : idxOf 34 data with
    | none => rfl
    | some i =>
      have hi := (idxOf_lt h).1
      simp only
      split
      · rfl
      · exact strLen_fuel f g _ _ (by simp; omega) (by simp; omega)
def StrRel (xs : List Int) (k : Nat) : Prop := strLen (xs.length + 1) xs 0 = strLen (xs.length - k + 1) (xs.drop k) k
theorem StrRel.start (xs : List Int) : StrRel xs 0 := rfl
theorem StrRel.none {xs : List Int} {k : Nat} (h : StrRel xs k) (hi : idxOf 34 (xs.drop k) = none) : strLen (xs.length + 1) xs 0 = (false, xs.length - k) := by
  rw [h]; simp [strLen, hi]
theorem StrRel.yes {xs : List Int} {k i : Nat} (h : StrRel xs k) (hi : idxOf 34 (xs.drop k) = some i) (hs : slashes ((xs.drop k).take i) % 2 = 0) : strLen (xs.length + 1) xs 0 = (true, k + i) := by
  rw [h]; simp [strLen, hi, hs]
theorem StrRel.no {xs : List Int} {k i : Nat} (h : StrRel xs k) (hi : idxOf 34 (xs.drop k) = some i) (hs : slashes ((xs.drop k).take i) % 2 = 1) : StrRel xs (k + (i + 1)) := by
  have hl := (idxOf_lt hi).1
  simp at hl
  unfold StrRel
  rw [h, strLen, hi]
  simp only [hs]
  rw [if_neg (by decide), List.drop_drop]
  rw [show k + i + 1 = k + (i + 1) from by omega]
  exact strLen_fuel _ _ _ _ (by simp <;> omega) (by simp <;> omega)
theorem slashes_none {xs : List Int} {i : Nat} (hi : i ≤ xs.length) (h : i = 0 ∨ xs.getD (i - 1) 0 ≠ 92) : slashes (xs.take i) % 2 = 0 := by
  rcases h with rfl | h
  · simp [slashes]
  · rcases Nat.eq_zero_or_pos i with rfl | h0
    · simp [slashes]
    · have := (Seen.start xs i).stop hi h0 (by simpa using h)
      rw [this]
set_option maxHeartbeats 4000000 in
set_option maxRecDepth 100000 in
theorem findStringLen_at (b o n cap : Nat) (xs : List Int) (w : World) (hx : xs.length = n) (hn : n ≤ 1073741824) (hB : Bytes xs)
    (hc : ∀ i, i < n → w.cell? ⟨b, o + i, none⟩ = some (.int .u8 (xs.getD i 0))) (hcap : n ≤ cap) :
    Calls Tryz.prog 144 #[.slice (some ⟨b, o, none⟩) n cap] w fun e w' => e = .returned (.tuple #[.bool (strLen (n + 1) xs 0).1, .int .i64 (strLen (n + 1) xs 0).2]) ∧ w = w' := by
  have HX := Lib.hid hx
  have HC := Lib.hid hc
  have HB := Lib.hid hB
  clear hx hc hB
  go_enter Tryz.func144, Tryz.ntmps144
  go_wp2
  go_loop [0, 3] (fun v l => ∃ (k o' c' : Nat), k ≤ n ∧ v = .slice (some ⟨b, o', none⟩) (n - k) c' ∧ n - k ≤ c' ∧ (n = k ∨ o' = o + k) ∧ l = .int .i64 k ∧ StrRel xs k)
    (fun _ l => n - (intOf l).toNat)
  case atStart => exact ⟨0, o, cap, Nat.zero_le _, rfl, hcap, .inr rfl, rfl, StrRel.start _⟩
  case round =>
    obtain ⟨k, o', c', hkn, rfl, hkc, ho, rfl, hrel⟩ := hrel
    have HR := Lib.hid hrel
    have HO := Lib.hid ho
    clear hrel ho
    have hcells : RowKit.Hid (∀ i, i < n - k → w.cell? ⟨b, o' + i, none⟩ = some (.int .u8 ((xs.drop k).getD i 0))) := fun i hi => by
      rcases HO.out with h | h
      · omega
      · rw [h, getD_drop, ← HC.out (k + i) (by omega)]; simp [Nat.add_assoc]
    have hlen : RowKit.Hid ((xs.drop k).length = n - k) := by show _ = _; rw [List.length_drop, HX.out]
    have HI : RowKit.Hid (∀ w' : World, w' = w → Calls Tryz.prog 132 #[.slice (some ⟨b, o', none⟩) (n - k) c', .int .u8 34] w' fun e w'' => e = .returned (.int .i64 (idxI 34 (xs.drop k))) ∧ w' = w'') :=
      fun w' hw' => by subst hw'; exact indexByte_at b o' (n - k) c' (xs.drop k) 34 w' hlen.out (HB.out.drop k) (by omega) hcells.out
    cases hi : idxOf 34 (xs.drop k) with
    | none =>
      have e1 : idxI 34 (xs.drop k) = -1 := by simp [idxI, hi]
      have HF := Lib.hid (HR.out.none hi)
      clear hi
      have hk1 : n - k ≤ n := by omega
      go_wp2_with (go_at_call 132; refine (HI.out _ rfl).mono ?_; rintro e w' ⟨rfl, rfl⟩)
      go_ret2
      have hf := HF.out
      rw [HX.out] at hf
      rw [hf]
      exact ⟨rfl, rfl⟩
    | some i =>
      have e1 : idxI 34 (xs.drop k) = (i : Int) := by simp [idxI, hi]
      have hil := (idxOf_lt hi).1
      rw [hlen.out] at hil
      have HQ := Lib.hid hi
      clear hi
      rcases Nat.eq_zero_or_pos i with h0 | h0
      · subst h0
        have e1' : idxI 34 (xs.drop k) = 0 := e1
        have HF := Lib.hid (HR.out.yes HQ.out (slashes_none (by omega) (.inl rfl)))
        clear e1
        go_wp2_with (go_at_call 132; refine (HI.out _ rfl).mono ?_; rintro e w' ⟨rfl, rfl⟩)
        go_ret2
        have hf := HF.out
        rw [HX.out] at hf
        rw [hf]
        exact ⟨rfl, rfl⟩
      · have g1 : ((i : Int) == -1) = false := beq_eq_false_iff_ne.2 (by omega)
        have g2 : ((i : Int) == 0) = false := beq_eq_false_iff_ne.2 (by omega)
        have g3 : decide ((0 : Int) < (i : Int)) = true := decide_eq_true (by omega)
        have hu := hcells.out (i - 1) (by omega)
        generalize hcc : (xs.drop k).getD (i - 1) 0 = c at hu
        by_cases h92 : c = 92
        case neg =>
          have HF := Lib.hid (HR.out.yes HQ.out (slashes_none (by rw [hlen.out]; omega) (.inr (by rw [hcc]; exact h92))))
          have m1 : (c == 92) = false := by simp [h92]
          have m2 : (c != 92) = true := by simp [h92]
          clear hcc h92
          go_wp2_with (go_at_call 132; refine (HI.out _ rfl).mono ?_; rintro e w' ⟨rfl, rfl⟩)
          go_ret2
          have hf := HF.out
          rw [HX.out] at hf
          rw [hf]
          exact ⟨rfl, rfl⟩
        case pos =>
          subst h92
          have HS1 := Lib.hid ((Seen.start (xs.drop k) i).next (by rw [hlen.out]; omega) h0 (by simpa using hcc))
          clear hcc
          go_wp2_with (go_at_call 132; refine (HI.out _ rfl).mono ?_; rintro e w' ⟨rfl, rfl⟩)
          go_loop [5] (fun c => ∃ j : Nat, c = .int .i64 j ∧ 1 ≤ j ∧ j ≤ i ∧ Seen (xs.drop k) i j) (fun c => i - (intOf c).toNat)
          case atStart => exact ⟨1, rfl, Nat.le_refl _, h0, HS1.out⟩
          case round =>
            obtain ⟨j, rfl, hj1, hji, hseen⟩ := hrel
            have HSE := Lib.hid hseen
            clear hseen hu
            by_cases hlt : j < i
            case neg =>
              obtain rfl : j = i := by omega
              have HSL := Lib.hid HSE.out.all
              rcases Nat.mod_two_eq_zero_or_one j with hpar | hpar
              · have HF := Lib.hid (HR.out.yes HQ.out (by rw [HSL.out]; exact hpar))
                have hpb : ((j : Int) % 2 == 0) = true := by simp; omega
                clear hpar
                go_wp2
                go_ret2
                have hf := HF.out
                rw [HX.out] at hf
                rw [hf]
                exact ⟨rfl, rfl⟩
              · have HF := Lib.hid (HR.out.no HQ.out (by rw [HSL.out]; exact hpar))
                have hpb : ((j : Int) % 2 == 0) = false := by simp; omega
                clear hpar
                by_cases hci : c' = j + 1
                · have HCI := Lib.hid hci
                  have hci1 : c' ≤ j + 1 := by omega
                  have hci2 : j + 1 ≤ c' := by omega
                  clear hci
                  go_wp2
                  go_round
                  case rel => exact ⟨k + (j + 1), _, _, by omega, by rw [show n - (k + (j + 1)) = n - k - (j + 1) from by omega], by omega, .inl (by omega), by go_num, HF.out⟩
                  case measure => simp [intOf]; omega
                · go_wp2
                  go_round
                  case rel => exact ⟨k + (j + 1), _, _, by omega, by rw [show n - (k + (j + 1)) = n - k - (j + 1) from by omega], by omega, (HO.out.elim (fun h => .inl (by omega)) (fun h => .inr (by omega))), by go_num, HF.out⟩
                  case measure => simp [intOf]; omega
            case pos =>
              have hv := hcells.out (i - j - 1) (by omega)
              generalize hcc : (xs.drop k).getD (i - j - 1) 0 = c at hv
              have tn : ((i : Int) - j - 1).toNat = i - j - 1 := by omega
              by_cases h92 : c = 92
              case pos =>
                subst h92
                have HS2 := Lib.hid (HSE.out.next (by rw [hlen.out]; omega) hlt (by simpa using hcc))
                clear hcc
                go_wp2
                go_round
                case rel => exact ⟨j + 1, by go_num, by omega, by omega, HS2.out⟩
                case measure => simp [intOf]; omega
              case neg =>
                have HSL := Lib.hid (HSE.out.stop (by rw [hlen.out]; omega) hlt (by rw [hcc]; exact h92))
                have m1 : (c == 92) = false := by simp [h92]
                clear hcc h92
                rcases Nat.mod_two_eq_zero_or_one j with hpar | hpar
                · have HF := Lib.hid (HR.out.yes HQ.out (by rw [HSL.out]; exact hpar))
                  have hpb : ((j : Int) % 2 == 0) = true := by simp; omega
                  clear hpar
                  go_wp2
                  go_ret2
                  have hf := HF.out
                  rw [HX.out] at hf
                  rw [hf]
                  exact ⟨rfl, rfl⟩
                · have HF := Lib.hid (HR.out.no HQ.out (by rw [HSL.out]; exact hpar))
                  have hpb : ((j : Int) % 2 == 0) = false := by simp; omega
                  clear hpar
                  by_cases hci : c' = i + 1
                  · have HCI := Lib.hid hci
                    have hci1 : c' ≤ i + 1 := by omega
                    have hci2 : i + 1 ≤ c' := by omega
                    clear hci
                    go_wp2
                    go_round
                    case rel => exact ⟨k + (i + 1), _, _, by omega, by rw [show n - (k + (i + 1)) = n - k - (i + 1) from by omega], by omega, .inl (by omega), by go_num, HF.out⟩
                    case measure => simp [intOf]; omega
                  · go_wp2
                    go_round
                    case rel => exact ⟨k + (i + 1), _, _, by omega, by rw [show n - (k + (i + 1)) = n - k - (i + 1) from by omega], by omega, (HO.out.elim (fun h => .inl (by omega)) (fun h => .inr (by omega))), by go_num, HF.out⟩
                    case measure => simp [intOf]; omega
end Go.Proofs.YtaecbclonmhbcaaGreatDoor
