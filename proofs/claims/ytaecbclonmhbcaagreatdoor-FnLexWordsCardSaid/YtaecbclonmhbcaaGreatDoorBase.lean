/- Small facts on worlds: a block known whole, what a step leaves as it was, a slice of bytes. No program. -/
import Derived.WalkKit
import Derived.WalkSpells
import Derived.WalkLawsBesides
import Derived.Deep.QuietTactic
import Derived.BigQuiet
import Derived.Lib.Hide
namespace Go.Proofs.YtaecbclonmhbcaaGreatDoor
open Go.RowKit

theorem cell_of_heap {w : World} {b : Nat} {c : Array Value} {e : TypeId} {f : Nat × Nat} (h : w.heap[b]? = some (.cells c e f)) (i : Nat) {v : Value} (hv : c[i]? = some v) : w.cell? ⟨b, i, none⟩ = some v := by
  simp [World.cell?, h, hv]
theorem free_of_heap {w : World} {b : Nat} {c : Array Value} {e : TypeId} (h : w.heap[b]? = some (.cells c e (0, 0))) (i : Nat) : w.frozen? ⟨b, i, none⟩ = false := by
  simp [World.frozen?, h]
theorem heap_setCell {w : World} {b : Nat} {c : Array Value} {e : TypeId} {f : Nat × Nat} (h : w.heap[b]? = some (.cells c e f)) (i : Nat) (v : Value) :
    (w.setCell ⟨b, i, none⟩ v).heap[b]? = some (.cells (c.setIfInBounds i v) e f) := by
  simp [World.setCell, h, Array.getElem?_modify]
theorem heap_setCell_other {w : World} {b k : Nat} (i : Nat) (v : Value) (h : k ≠ b) : (w.setCell ⟨b, i, none⟩ v).heap[k]? = w.heap[k]? := by
  simp [World.setCell, Array.getElem?_modify]
  intro h'; exact absurd h'.symm h
theorem heap_alloc_lt {w : World} {o : Obj} {k : Nat} (h : k < w.heap.size) : (w.alloc o).heap[k]? = w.heap[k]? := by
  show (w.heap.push o)[k]? = w.heap[k]?
  simp [Array.getElem?_push, Nat.ne_of_lt h]
theorem heap_drewN {w : World} {n : Nat} : (w.drewN n).heap = w.heap := rfl
theorem lt_heap {w : World} {b : Nat} {o : Obj} (h : w.heap[b]? = some o) : b < w.heap.size := (Array.getElem?_eq_some_iff.1 h).1

/-- The step leaves every block but b, and what is not memory, as it was; there may be new blocks. -/
structure Kept (b : Nat) (w w' : World) : Prop where
  os : w'.os = w.os
  tape : w'.tape = w.tape
  output : w'.output = w.output
  size : w.heap.size ≤ w'.heap.size
  block : ∀ k, k < w.heap.size → k ≠ b → w'.heap[k]? = w.heap[k]?

theorem Kept.refl (b : Nat) (w : World) : Kept b w w := ⟨rfl, rfl, rfl, Nat.le_refl _, fun _ _ _ => rfl⟩
theorem Kept.trans {b : Nat} {u v w : World} (h : Kept b u v) (k : Kept b v w) : Kept b u w :=
  ⟨k.os.trans h.os, k.tape.trans h.tape, k.output.trans h.output, Nat.le_trans h.size k.size,
    fun i hi hn => (k.block i (Nat.lt_of_lt_of_le hi h.size) hn).trans (h.block i hi hn)⟩
theorem Kept.drewN {b : Nat} {u v : World} (h : Kept b u v) (n : Nat) : Kept b u (v.drewN n) := ⟨h.os, h.tape, h.output, h.size, h.block⟩
theorem Kept.drew {b : Nat} {u v : World} (h : Kept b u v) : Kept b u v.drew := ⟨h.os, h.tape, h.output, h.size, h.block⟩
theorem Kept.alloc {b : Nat} {u v : World} (h : Kept b u v) (o : Obj) : Kept b u (v.alloc o) :=
  ⟨h.os, h.tape, h.output, Nat.le_trans h.size (by simp), fun k hk hn => (heap_alloc_lt (Nat.lt_of_lt_of_le hk h.size)).trans (h.block k hk hn)⟩
theorem Kept.setCell {b : Nat} {u v : World} (h : Kept b u v) (i : Nat) (x : Value) : Kept b u (v.setCell ⟨b, i, none⟩ x) :=
  ⟨h.os, h.tape, h.output, Nat.le_trans h.size (by simp), fun k hk hn => (heap_setCell_other i x hn).trans (h.block k hk hn)⟩
theorem Kept.cell {b : Nat} {u v : World} (h : Kept b u v) {a : Addr} {x : Value} (hc : u.cell? a = some x) (hn : a.block ≠ b) : v.cell? a = some x := by
  have hb := h.block a.block (World.block_lt_of_cell? u a hc) hn
  rw [← hc]; simp [World.cell?, hb]
theorem Kept.heap {b : Nat} {u v : World} (h : Kept b u v) {k : Nat} {o : Obj} (hc : u.heap[k]? = some o) (hn : k ≠ b) : v.heap[k]? = some o :=
  (h.block k (lt_heap hc) hn).trans hc

/-- The slice value v holds the bytes l, in a block outside of A. -/
def BytesAt (w : World) (A : Nat → Prop) (v : Value) (l : List Int) : Prop :=
  (l = [] ∧ v = .slice none 0 0) ∨
    ∃ b o cap, v = .slice (some ⟨b, o, none⟩) l.length cap ∧ l.length ≤ cap ∧ (¬ A b ∧ b < w.heap.size) ∧ ∀ i, i < l.length → w.cell? ⟨b, o + i, none⟩ = some (.int .u8 (l.getD i 0))

/-- An error's address, and blocks that the lexer has no part in. -/
structure Sur where
  addr : Addr
  held : Nat → Prop
/-- The lexer's own block, and those. -/
def Sur.off (s : Sur) (b k : Nat) : Prop := k = b ∨ s.held k

theorem BytesAt.kept {w w' : World} {s : Sur} {nb : Nat} {v : Value} {l : List Int} (h : BytesAt w (s.off nb) v l) (hk : Kept nb w w') : BytesAt w' (s.off nb) v l := by
  rcases h with h | ⟨b, o, cap, hv, hc, hn, hx⟩
  · exact .inl h
  · exact .inr ⟨b, o, cap, hv, hc, ⟨hn.1, Nat.lt_of_lt_of_le hn.2 hk.size⟩, fun i hi => hk.cell (hx i hi) fun e => hn.1 (.inl e)⟩

end Go.Proofs.YtaecbclonmhbcaaGreatDoor
