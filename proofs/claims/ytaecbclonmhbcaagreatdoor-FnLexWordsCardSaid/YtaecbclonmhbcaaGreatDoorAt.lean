/- How the lexer lies in memory, and what its smallest methods do to it. -/
import Derived.Test.YtaecbclonmhbcaaGreatDoorProg
import Derived.Test.YtaecbclonmhbcaaGreatDoorBase
import Derived.Test.YtaecbclonmhbcaaGreatDoorLex
namespace Go.Proofs.YtaecbclonmhbcaaGreatDoor
open Go.RowKit

/-- The two errors that have names: io.EOF's and errOther's addresses. -/
structure Env (w : World) (ae : Sur) (ao : Addr) : Prop where
  eof : w.cell? ⟨1, 0, none⟩ = some (.iface 191 (.pointer (some ae.addr)))
  other : w.cell? ⟨0, 0, none⟩ = some (.iface 191 (.pointer (some ao)))
  ne : ae.addr ≠ ao

/-- An error value. -/
def ErrAt (w : World) (nb : Nat) (ae : Sur) (ao : Addr) (v : Value) : Er → Prop
  | .nil => v = .nilIface
  | .eof => v = .iface 191 (.pointer (some ae.addr))
  | .other => v = .iface 191 (.pointer (some ao))
  | .lex n => ∃ (k : Nat) (s t : ByteArray), v = .iface 60 (.pointer (some ⟨k, 0, none⟩)) ∧ ¬ ae.off nb k ∧ w.heap[k]? = some (.cells #[.string s, .int .i64 n, .string t] 66 (0, 0))

theorem ErrAt.kept {w w' : World} {nb : Nat} {ae : Sur} {ao : Addr} {v : Value} {e : Er} (h : ErrAt w nb ae ao v e) (hk : Kept nb w w') : ErrAt w' nb ae ao v e := by
  cases e <;> simp only [ErrAt] at h ⊢ <;> try exact h
  obtain ⟨k, s, t, hv, hn, hh⟩ := h
  exact ⟨k, s, t, hv, hn, hk.heap hh fun e => hn (.inl e)⟩

/-- The lexer's own cells, by their values. -/
def lxCells (vd : Value) (x : Lx) (vt ve vm : Value) : Array Value :=
  #[vd, .int .i64 x.start, .int .i64 x.pos, .int .u8 x.kind, .bool x.bv, .bool x.cl, vt, .int .u8 x.delim, .bool x.fst, .int .u8 x.sep, .bool x.multi, ve, vm]

/-- The lexer lies in block b and is in the state x. -/
structure LexAt (w : World) (b : Nat) (ae : Sur) (ao : Addr) (x : Lx) (vd vt ve vm : Value) : Prop where
  heap : w.heap[b]? = some (.cells (lxCells vd x vt ve vm) 83 (0, 0))
  data : BytesAt w (ae.off b) vd x.d
  tok : BytesAt w (ae.off b) vt x.tok
  err : ErrAt w b ae ao ve x.err
  env : Env w ae ao
  b2 : 1 < b
  held : ∀ k, ae.held k → k < w.heap.size

/-- .. with the values unnamed. -/
def LexIs (w : World) (b : Nat) (ae : Sur) (ao : Addr) (x : Lx) (vd vm : Value) : Prop := ∃ vt ve, LexAt w b ae ao x vd vt ve vm

theorem Env.kept {w w' : World} {nb : Nat} {ae : Sur} {ao : Addr} (h : Env w ae ao) (hk : Kept nb w w') (hb : 1 < nb) : Env w' ae ao :=
  ⟨hk.cell h.eof (by simp; omega), hk.cell h.other (by simp; omega), h.ne⟩

section
variable {w w' : World} {b : Nat} {ae : Sur} {ao : Addr} {x : Lx} {vd vt ve vm : Value}
theorem LexAt.c0 (h : LexAt w b ae ao x vd vt ve vm) : w.cell? ⟨b, 0, none⟩ = some vd := cell_of_heap h.heap 0 rfl
theorem LexAt.c1 (h : LexAt w b ae ao x vd vt ve vm) : w.cell? ⟨b, 1, none⟩ = some (.int .i64 x.start) := cell_of_heap h.heap 1 rfl
theorem LexAt.c2 (h : LexAt w b ae ao x vd vt ve vm) : w.cell? ⟨b, 2, none⟩ = some (.int .i64 x.pos) := cell_of_heap h.heap 2 rfl
theorem LexAt.c3 (h : LexAt w b ae ao x vd vt ve vm) : w.cell? ⟨b, 3, none⟩ = some (.int .u8 x.kind) := cell_of_heap h.heap 3 rfl
theorem LexAt.c4 (h : LexAt w b ae ao x vd vt ve vm) : w.cell? ⟨b, 4, none⟩ = some (.bool x.bv) := cell_of_heap h.heap 4 rfl
theorem LexAt.c5 (h : LexAt w b ae ao x vd vt ve vm) : w.cell? ⟨b, 5, none⟩ = some (.bool x.cl) := cell_of_heap h.heap 5 rfl
theorem LexAt.c6 (h : LexAt w b ae ao x vd vt ve vm) : w.cell? ⟨b, 6, none⟩ = some vt := cell_of_heap h.heap 6 rfl
theorem LexAt.c7 (h : LexAt w b ae ao x vd vt ve vm) : w.cell? ⟨b, 7, none⟩ = some (.int .u8 x.delim) := cell_of_heap h.heap 7 rfl
theorem LexAt.c8 (h : LexAt w b ae ao x vd vt ve vm) : w.cell? ⟨b, 8, none⟩ = some (.bool x.fst) := cell_of_heap h.heap 8 rfl
theorem LexAt.c9 (h : LexAt w b ae ao x vd vt ve vm) : w.cell? ⟨b, 9, none⟩ = some (.int .u8 x.sep) := cell_of_heap h.heap 9 rfl
theorem LexAt.c10 (h : LexAt w b ae ao x vd vt ve vm) : w.cell? ⟨b, 10, none⟩ = some (.bool x.multi) := cell_of_heap h.heap 10 rfl
theorem LexAt.c11 (h : LexAt w b ae ao x vd vt ve vm) : w.cell? ⟨b, 11, none⟩ = some ve := cell_of_heap h.heap 11 rfl
theorem LexAt.c12 (h : LexAt w b ae ao x vd vt ve vm) : w.cell? ⟨b, 12, none⟩ = some vm := cell_of_heap h.heap 12 rfl
theorem LexAt.free (h : LexAt w b ae ao x vd vt ve vm) (i : Nat) : w.frozen? ⟨b, i, none⟩ = false := free_of_heap h.heap i
theorem LexAt.lt (h : LexAt w b ae ao x vd vt ve vm) : b < w.heap.size := lt_heap h.heap
/-- A new block is none of the lexer's, and none of the others'. -/
theorem LexAt.fresh (h : LexAt w b ae ao x vd vt ve vm) : ¬ ae.off b w.heap.size := by
  rintro (e | e)
  · have := h.lt; omega
  · have := h.held _ e; omega

/-- The state in a later world: its cells, and what the two changing values are. -/
theorem LexAt.into (h : LexAt w b ae ao x vd vt ve vm) (hk : Kept b w w') {x' : Lx} {vt' ve' vm' : Value} (hd : x'.d = x.d)
    (hh : w'.heap[b]? = some (.cells (lxCells vd x' vt' ve' vm') 83 (0, 0))) (ht : BytesAt w' (ae.off b) vt' x'.tok) (he : ErrAt w' b ae ao ve' x'.err) : LexAt w' b ae ao x' vd vt' ve' vm' :=
  ⟨hh, by rw [hd]; exact h.data.kept hk, ht, he, h.env.kept hk h.b2, h.b2, fun k a => Nat.lt_of_lt_of_le (h.held k a) hk.size⟩

/-- Draws turn nothing. -/
theorem LexAt.drewN (h : LexAt w b ae ao x vd vt ve vm) (n : Nat) : LexAt (w.drewN n) b ae ao x vd vt ve vm :=
  h.into ((Kept.refl b w).drewN n) rfl h.heap (h.tok.kept ((Kept.refl b w).drewN n)) (h.err.kept ((Kept.refl b w).drewN n))

/-- A store into a cell of the lexer's own that is neither the token's bytes, nor the error. -/
theorem LexAt.set (h : LexAt w b ae ao x vd vt ve vm) (i : Nat) (v : Value) {x' : Lx} (hc : (lxCells vd x vt ve vm).setIfInBounds i v = lxCells vd x' vt ve vm)
    (hd : x'.d = x.d) (ht : x'.tok = x.tok) (he : x'.err = x.err) : LexAt (w.setCell ⟨b, i, none⟩ v) b ae ao x' vd vt ve vm := by
  have hk := (Kept.refl b w).setCell i v
  refine h.into hk hd ?_ (by rw [ht]; exact h.tok.kept hk) (by rw [he]; exact h.err.kept hk)
  rw [heap_setCell h.heap i v, hc]
theorem LexAt.setStart (h : LexAt w b ae ao x vd vt ve vm) (n : Nat) : LexAt (w.setCell ⟨b, 1, none⟩ (.int .i64 n)) b ae ao { x with start := n } vd vt ve vm := h.set 1 _ rfl rfl rfl rfl
theorem LexAt.setPos (h : LexAt w b ae ao x vd vt ve vm) (n : Nat) : LexAt (w.setCell ⟨b, 2, none⟩ (.int .i64 n)) b ae ao { x with pos := n } vd vt ve vm := h.set 2 _ rfl rfl rfl rfl
theorem LexAt.setKind (h : LexAt w b ae ao x vd vt ve vm) (n : Nat) : LexAt (w.setCell ⟨b, 3, none⟩ (.int .u8 n)) b ae ao { x with kind := n } vd vt ve vm := h.set 3 _ rfl rfl rfl rfl
theorem LexAt.setBv (h : LexAt w b ae ao x vd vt ve vm) (n : Bool) : LexAt (w.setCell ⟨b, 4, none⟩ (.bool n)) b ae ao { x with bv := n } vd vt ve vm := h.set 4 _ rfl rfl rfl rfl
theorem LexAt.setCl (h : LexAt w b ae ao x vd vt ve vm) (n : Bool) : LexAt (w.setCell ⟨b, 5, none⟩ (.bool n)) b ae ao { x with cl := n } vd vt ve vm := h.set 5 _ rfl rfl rfl rfl
theorem LexAt.setDelim (h : LexAt w b ae ao x vd vt ve vm) (n : Int) : LexAt (w.setCell ⟨b, 7, none⟩ (.int .u8 n)) b ae ao { x with delim := n } vd vt ve vm := h.set 7 _ rfl rfl rfl rfl
theorem LexAt.setFst (h : LexAt w b ae ao x vd vt ve vm) (n : Bool) : LexAt (w.setCell ⟨b, 8, none⟩ (.bool n)) b ae ao { x with fst := n } vd vt ve vm := h.set 8 _ rfl rfl rfl rfl
theorem LexAt.setSep (h : LexAt w b ae ao x vd vt ve vm) (n : Int) : LexAt (w.setCell ⟨b, 9, none⟩ (.int .u8 n)) b ae ao { x with sep := n } vd vt ve vm := h.set 9 _ rfl rfl rfl rfl
theorem LexAt.setErr (h : LexAt w b ae ao x vd vt ve vm) (v : Value) (e : Er) (he : ErrAt (w.setCell ⟨b, 11, none⟩ v) b ae ao v e) : LexAt (w.setCell ⟨b, 11, none⟩ v) b ae ao { x with err := e } vd vt v vm := by
  have hk := (Kept.refl b w).setCell 11 v
  exact h.into hk rfl (by rw [heap_setCell h.heap 11 v]; rfl) (h.tok.kept hk) he
theorem LexAt.setTok (h : LexAt w b ae ao x vd vt ve vm) (v : Value) (l : List Int) (ht : BytesAt (w.setCell ⟨b, 6, none⟩ v) (ae.off b) v l) : LexAt (w.setCell ⟨b, 6, none⟩ v) b ae ao { x with tok := l } vd v ve vm := by
  have hk := (Kept.refl b w).setCell 6 v
  exact h.into hk rfl (by rw [heap_setCell h.heap 6 v]; rfl) ht (h.err.kept hk)
theorem LexAt.alloc (h : LexAt w b ae ao x vd vt ve vm) (o : Obj) : LexAt (w.alloc o) b ae ao x vd vt ve vm := by
  have hk := (Kept.refl b w).alloc o
  exact h.into hk rfl (by rw [heap_alloc_lt h.lt]; exact h.heap) (h.tok.kept hk) (h.err.kept hk)
end

section
variable {w : World} {b : Nat} {ae : Sur} {ao : Addr} {x : Lx} {vd vt ve vm : Value}
set_option maxHeartbeats 400000 in
theorem consume_any (h : LexAt w b ae ao x vd vt ve vm) :
    Calls Tryz.prog 104 #[.pointer (some ⟨b, 0, none⟩)] w fun e w' => e = .returned (.tuple #[]) ∧ LexAt w' b ae ao x.consume vd vt ve vm ∧ Kept b w w' := by
  have c3 := h.c3
  have c5 := h.c5
  have c7 := h.c7
  have f3 := h.free 3
  have f5 := h.free 5
  have f7 := h.free 7
  go_enter Tryz.func104, Tryz.ntmps104
  go_wp2
  go_end0
  exact ⟨rfl, ((h.setKind 0).setCl false).setDelim 0, (((Kept.refl b w).setCell 3 _).setCell 5 _).setCell 7 _⟩

set_option maxHeartbeats 400000 in
theorem ok_any (h : LexAt w b ae ao x vd vt ve vm) :
    Calls Tryz.prog 47 #[.pointer (some ⟨b, 0, none⟩)] w fun e w' => e = .returned (.bool x.ok) ∧ w = w' := by
  have c11 := h.c11
  have he := h.err
  have hx : x.ok = x.err.isNil := rfl
  rw [hx]
  clear h hx
  cases hxe : x.err <;> rw [hxe] at he <;> simp only [ErrAt] at he <;> clear hxe
  case lex n => obtain ⟨k, s, t, rfl, -, -⟩ := he; go_enter Tryz.func47, Tryz.ntmps47; go_wp2; go_ret; exact ⟨rfl, rfl⟩
  all_goals (subst he; go_enter Tryz.func47, Tryz.ntmps47; go_wp2; go_ret; exact ⟨rfl, rfl⟩)
end
end Go.Proofs.YtaecbclonmhbcaaGreatDoor
