/- The reference's nodes: what a node's blocks hold, and its appends. -/
import Derived.Test.YtaecbclonmhbcaaGreatDoorR34
set_option linter.unusedVariables false
set_option linter.unusedSimpArgs false
namespace Go.Proofs.YtaecbclonmhbcaaGreatDoor
open Go.RowKit
theorem info71 : (Tryz.prog.info? 71).map (fun i => (i.zero, i.size, i.bytes)) = some (some (Value.agg #[.int .i64 0, .int .i64 0, .int .i64 0, .slice none 0 0, .slice none 0 0, .slice none 0 0]), 6, 96) := by kernel_rfl
structure NodeAt (w : World) (B : Nat) (kd : Int) (fr up : Nat) (S N L : Value) (cn cl : Nat) : Prop where
  res : ∃ c0 c1 c2 c3 c4 c5, w.heap[B]? = some (.cells #[c0, c1, c2, c3, c4, c5] 71 (0, 0))
  row : w.heap[B + 1]? = some (.cells #[.int .i64 kd, .int .i64 fr, .int .i64 up, S, N, L] 71 (0, 0))
  names : ∃ xs, w.ownsRow (B + 2) 22 1 N cn xs
  list : ∃ xs, w.ownsRow (B + 2) 71 6 L cl xs
  apart : ∀ j, N.ownBlock = some j → L.ownBlock ≠ some j
section
variable {w w' : World} {B fr up cn cl : Nat} {kd : Int} {S N L : Value}
theorem NodeAt.c (h : NodeAt w B kd fr up S N L cn cl) (i : Nat) {v : Value} (hv : (#[.int .i64 kd, .int .i64 fr, .int .i64 up, S, N, L] : Array Value)[i]? = some v) : w.cell? ⟨B + 1, i, none⟩ = some v := cell_of_heap h.row i hv
theorem NodeAt.free (h : NodeAt w B kd fr up S N L cn cl) (i : Nat) : w.frozen? ⟨B + 1, i, none⟩ = false := free_of_heap h.row i
theorem NodeAt.size (h : NodeAt w B kd fr up S N L cn cl) : B + 1 < w.heap.size := lt_heap h.row
theorem NodeAt.formN (h : NodeAt w B kd fr up S N L cn cl) : ∃ p c, N = .slice p cn c := ownsRow_form h.names.choose_spec
theorem NodeAt.formL (h : NodeAt w B kd fr up S N L cn cl) : ∃ p c, L = .slice p cl c := ownsRow_form h.list.choose_spec
theorem NodeAt.ownN (h : NodeAt w B kd fr up S N L cn cl) (j : Nat) (hj : N.ownBlock = some j) : B + 2 ≤ j ∧ j < w.heap.size := ownsRow_lt h.names.choose_spec hj
theorem NodeAt.ownL (h : NodeAt w B kd fr up S N L cn cl) (j : Nat) (hj : L.ownBlock = some j) : B + 2 ≤ j ∧ j < w.heap.size := ownsRow_lt h.list.choose_spec hj
theorem NodeAt.below (h : NodeAt w B kd fr up S N L cn cl) (k : Below w.heap.size w w') : NodeAt w' B kd fr up S N L cn cl := by
  obtain ⟨c0, c1, c2, c3, c4, c5, hr⟩ := h.res
  obtain ⟨xs, hx⟩ := h.names
  obtain ⟨ys, hy⟩ := h.list
  exact ⟨⟨c0, c1, c2, c3, c4, c5, (k.block _ (lt_heap hr)).trans hr⟩, (k.block _ (lt_heap h.row)).trans h.row, ⟨xs, ownsRow_heap hx fun j hj => k.block j (ownsRow_lt hx hj).2⟩, ⟨ys, ownsRow_heap hy fun j hj => k.block j (ownsRow_lt hy hj).2⟩, h.apart⟩
theorem NodeAt.set (h : NodeAt w B kd fr up S N L cn cl) (i : Nat) (v : Value) {kd' : Int} {up2 : Nat} {S' : Value} (hs : (#[.int .i64 kd, .int .i64 fr, .int .i64 up, S, N, L] : Array Value).setIfInBounds i v = #[.int .i64 kd', .int .i64 fr, .int .i64 up2, S', N, L]) :
    NodeAt (w.setCell ⟨B + 1, i, none⟩ v) B kd' fr up2 S' N L cn cl := by
  obtain ⟨c0, c1, c2, c3, c4, c5, hr⟩ := h.res
  obtain ⟨xs, hx⟩ := h.names
  obtain ⟨ys, hy⟩ := h.list
  refine ⟨⟨c0, c1, c2, c3, c4, c5, ?_⟩, ?_, ⟨xs, ownsRow_heap hx fun j hj => ?_⟩, ⟨ys, ownsRow_heap hy fun j hj => ?_⟩, h.apart⟩
  · rw [heap_setCell_other _ _ (by omega)]; exact hr
  · rw [heap_setCell h.row i v, hs]
  · rw [heap_setCell_other _ _ (by have := (ownsRow_lt hx hj).1; omega)]
  · rw [heap_setCell_other _ _ (by have := (ownsRow_lt hy hj).1; omega)]
theorem NodeAt.setKind (h : NodeAt w B kd fr up S N L cn cl) (k : Int) : NodeAt (w.setCell ⟨B + 1, 0, none⟩ (.int .i64 k)) B k fr up S N L cn cl := h.set 0 _ rfl
theorem NodeAt.setTo (h : NodeAt w B kd fr up S N L cn cl) (k : Nat) : NodeAt (w.setCell ⟨B + 1, 2, none⟩ (.int .i64 k)) B kd fr k S N L cn cl := h.set 2 _ rfl
theorem NodeAt.setS (h : NodeAt w B kd fr up S N L cn cl) (k : Value) : NodeAt (w.setCell ⟨B + 1, 3, none⟩ k) B kd fr up k N L cn cl := h.set 3 _ rfl
theorem node_list (h : NodeAt w B kd fr up S N L cn cl) (hcl : cl ≤ 200000) {a0 a1 a2 a3 a4 a5 : Value} (h1 : ∀ u ∈ [a0, a1, a2, a3, a4, a5], u.oneCell' = true) {w0 : World} (hb : Below B w0 w) :
    ∃ L' W1, (Builtin.append_ #[69, 69] 69 #[L, .slice (some ⟨w.heap.size, 0, none⟩) 1 1]).run Tryz.prog (w.alloc (.cells #[a0, a1, a2, a3, a4, a5] 71)) = .ok L' W1 ∧ W1.cell? ⟨B + 1, 5, none⟩ = some L ∧ W1.frozen? ⟨B + 1, 5, none⟩ = false ∧
      NodeAt (W1.setCell ⟨B + 1, 5, none⟩ L') B kd fr up S N L' cn (cl + 1) ∧ Below B w0 (W1.setCell ⟨B + 1, 5, none⟩ L') ∧
      (∀ j, j < w.heap.size → j ≠ B + 1 → L.ownBlock ≠ some j → (W1.setCell ⟨B + 1, 5, none⟩ L').heap[j]? = w.heap[j]?) ∧ w.heap.size ≤ (W1.setCell ⟨B + 1, 5, none⟩ L').heap.size := by
  obtain ⟨i, hi, hz, hz1, hz2⟩ := info_parts info71
  obtain ⟨xs, hx⟩ := h.names
  obtain ⟨ys, hy⟩ := h.list
  have hsz := h.size
  have hs1 : (w.alloc (.cells #[a0, a1, a2, a3, a4, a5] 71)).heap.size = w.heap.size + 1 := by simp
  obtain ⟨v', W1, hr, ho, hg, hbb⟩ := append_any (P := Tryz.prog) (t := 69) Tryz.underlying69 hi hz hz1 hz2 rfl (by decide) (by decide) (hy.alloc (.cells #[a0, a1, a2, a3, a4, a5] 71)) ⟨w.heap.size, 0, none⟩ 1 1 [a0, a1, a2, a3, a4, a5] rfl
    (fun j u hj => by
      rw [addr_add0]
      exact cell_of_heap (heap_alloc_new w _) j (by simpa using hj)) h1 (by omega) (by omega)
  have hne : ∀ j, L.ownBlock = some j → B + 2 ≤ j := fun j e => (ownsRow_lt hy e).1
  have hrow : W1.heap[B + 1]? = some (.cells #[.int .i64 kd, .int .i64 fr, .int .i64 up, S, N, L] 71 (0, 0)) := by
    rw [hg.block (B + 1) (by omega) (fun e => by have := hne _ e.symm; omega), heap_alloc_lt (by omega)]; exact h.row
  have hnew : ∀ j, v'.ownBlock = some j → L.ownBlock = some j ∨ w.heap.size < j ∧ j < W1.heap.size := fun j e => by
    rcases hbb with e' | ⟨m, hm, e'⟩
    · exact .inl (by rw [← e']; exact e)
    · rw [e'] at e
      obtain rfl := Option.some.inj e
      exact .inr ⟨by omega, (ownsRow_lt ho e').2⟩
  have hkeep : ∀ j, j < w.heap.size → j ≠ B + 1 → L.ownBlock ≠ some j → (W1.setCell ⟨B + 1, 5, none⟩ v').heap[j]? = w.heap[j]? := fun j hj hn hl => by
    rw [heap_setCell_other _ _ hn, hg.block j (by omega) (fun e => hl e.symm), heap_alloc_lt hj]
  have hsize : w.heap.size ≤ (W1.setCell ⟨B + 1, 5, none⟩ v').heap.size := by
    have := hg.size
    rw [hs1] at this
    exact Nat.le_trans (show w.heap.size ≤ W1.heap.size by omega) (by simp)
  refine ⟨v', W1, hr, cell_of_heap hrow 5 rfl, free_of_heap hrow 5, ⟨?_, ?_, ⟨xs, ownsRow_heap hx fun j hj => ?_⟩, ⟨ys ++ [a0, a1, a2, a3, a4, a5], ownsRow_heap ho fun j hj => ?_⟩, ?_⟩, ⟨(hg.os.trans rfl).trans hb.os, (hg.tape.trans rfl).trans hb.tape, (hg.output.trans rfl).trans hb.output, Nat.le_trans hb.size hsize, fun j hj => ?_⟩, hkeep, hsize⟩
  · obtain ⟨c0, c1, c2, c3, c4, c5, hc⟩ := h.res
    exact ⟨c0, c1, c2, c3, c4, c5, (hkeep B (by omega) (by omega) (fun e => by have := hne _ e; omega)).trans hc⟩
  · rw [heap_setCell hrow 5 v']; rfl
  · have hjl := ownsRow_lt hx hj
    exact hkeep j hjl.2 (by omega) (h.apart j hj)
  · rw [heap_setCell_other _ _ (fun e => by have := (ownsRow_lt ho hj).1; omega)]
  · intro j hj e
    rcases hnew j e with e | e
    · exact h.apart j hj e
    · have := (ownsRow_lt hx hj).2; omega
  · rw [hkeep j (by omega) (by omega) (fun e => by have := hne _ e; omega)]
    exact hb.block j hj
theorem node_name (h : NodeAt w B kd fr up S N L cn cl) (hcl : cn ≤ 200000) {a0 : Value} (h1 : a0.oneCell' = true) {w0 : World} (hb : Below B w0 w) :
    ∃ N' W1, (Builtin.append_ #[42, 42] 42 #[N, .slice (some ⟨w.heap.size, 0, none⟩) 1 1]).run Tryz.prog (w.alloc (.cells #[a0] 22)) = .ok N' W1 ∧ W1.cell? ⟨B + 1, 4, none⟩ = some N ∧ W1.frozen? ⟨B + 1, 4, none⟩ = false ∧
      NodeAt (W1.setCell ⟨B + 1, 4, none⟩ N') B kd fr up S N' L (cn + 1) cl ∧ Below B w0 (W1.setCell ⟨B + 1, 4, none⟩ N') ∧
      (∀ j, j < w.heap.size → j ≠ B + 1 → N.ownBlock ≠ some j → (W1.setCell ⟨B + 1, 4, none⟩ N').heap[j]? = w.heap[j]?) ∧ w.heap.size ≤ (W1.setCell ⟨B + 1, 4, none⟩ N').heap.size := by
  obtain ⟨i, hi, hz, hz1, hz2⟩ := info_parts info22
  obtain ⟨xs, hx⟩ := h.names
  obtain ⟨ys, hy⟩ := h.list
  have hsz := h.size
  have hs1 : (w.alloc (.cells #[a0] 22)).heap.size = w.heap.size + 1 := by simp
  obtain ⟨v', W1, hr, ho, hg, hbb⟩ := append_any (P := Tryz.prog) (t := 42) Tryz.underlying42 hi hz hz1 hz2 rfl (by decide) (by decide) (hx.alloc (.cells #[a0] 22)) ⟨w.heap.size, 0, none⟩ 1 1 [a0] rfl
    (fun j u hj => by
      rw [addr_add0]
      exact cell_of_heap (heap_alloc_new w _) j (by simpa using hj)) (by intro u hu; rw [List.mem_singleton] at hu; subst hu; exact h1) (by omega) (by omega)
  have hne : ∀ j, N.ownBlock = some j → B + 2 ≤ j := fun j e => (ownsRow_lt hx e).1
  have hrow : W1.heap[B + 1]? = some (.cells #[.int .i64 kd, .int .i64 fr, .int .i64 up, S, N, L] 71 (0, 0)) := by
    rw [hg.block (B + 1) (by omega) (fun e => by have := hne _ e.symm; omega), heap_alloc_lt (by omega)]; exact h.row
  have hnew : ∀ j, v'.ownBlock = some j → N.ownBlock = some j ∨ w.heap.size < j ∧ j < W1.heap.size := fun j e => by
    rcases hbb with e' | ⟨m, hm, e'⟩
    · exact .inl (by rw [← e']; exact e)
    · rw [e'] at e
      obtain rfl := Option.some.inj e
      exact .inr ⟨by omega, (ownsRow_lt ho e').2⟩
  have hkeep : ∀ j, j < w.heap.size → j ≠ B + 1 → N.ownBlock ≠ some j → (W1.setCell ⟨B + 1, 4, none⟩ v').heap[j]? = w.heap[j]? := fun j hj hn hl => by
    rw [heap_setCell_other _ _ hn, hg.block j (by omega) (fun e => hl e.symm), heap_alloc_lt hj]
  have hsize : w.heap.size ≤ (W1.setCell ⟨B + 1, 4, none⟩ v').heap.size := by
    have := hg.size
    rw [hs1] at this
    exact Nat.le_trans (show w.heap.size ≤ W1.heap.size by omega) (by simp)
  refine ⟨v', W1, hr, cell_of_heap hrow 4 rfl, free_of_heap hrow 4, ⟨?_, ?_, ⟨xs ++ [a0], ownsRow_heap ho fun j hj => ?_⟩, ⟨ys, ownsRow_heap hy fun j hj => ?_⟩, ?_⟩, ⟨(hg.os.trans rfl).trans hb.os, (hg.tape.trans rfl).trans hb.tape, (hg.output.trans rfl).trans hb.output, Nat.le_trans hb.size hsize, fun j hj => ?_⟩, hkeep, hsize⟩
  · obtain ⟨c0, c1, c2, c3, c4, c5, hc⟩ := h.res
    exact ⟨c0, c1, c2, c3, c4, c5, (hkeep B (by omega) (by omega) (fun e => by have := hne _ e; omega)).trans hc⟩
  · rw [heap_setCell hrow 4 v']; rfl
  · rw [heap_setCell_other _ _ (fun e => by have := (ownsRow_lt ho hj).1; omega)]
  · have hjl := ownsRow_lt hy hj
    exact hkeep j hjl.2 (by omega) (fun e => h.apart j e hj)
  · intro j hj e
    rcases hnew j hj with e' | e'
    · exact h.apart j e' e
    · have := (ownsRow_lt hy e).2; omega
  · rw [hkeep j (by omega) (by omega) (fun e => by have := hne _ e; omega)]
    exact hb.block j hj
end
def NodeQ (d : List Int) (at' : Nat) (P : Nat → Prop) (w : World) (e : Ending) (w' : World) : Prop :=
  ∃ (kd fr : Int) (up : Nat) (p3 : Option Addr) (l3 c3 : Nat) (p4 : Option Addr) (l4 c4 : Nat) (p5 : Option Addr) (l5 c5 : Nat) (ok : Bool),
    e = .returned (.tuple #[.agg #[.int .i64 kd, .int .i64 fr, .int .i64 up, .slice p3 l3 c3, .slice p4 l4 c4, .slice p5 l5 c5], .bool ok]) ∧ at' ≤ up ∧ up ≤ d.length ∧ (ok = true → at' < up) ∧ (∀ q, P q → ok = true ∧ up = q) ∧ Below w.heap.size w w'
def ValC (d : List Int) (n : Nat) : Prop := ∀ (p : Option Addr) (cap at' : Nat) (deep : Int) (w : World), Bs w p d → at' ≤ d.length → d.length - at' < n → (d.length : Int) < deep + at' → deep ≤ 1073741824 →
  Calls Tryz.prog 41 #[.slice p d.length cap, .int .i64 at', .int .i64 deep] w (NodeQ d at' (fun q => ∃ r, Bl d at' r ∧ G d 0 r q) w)
theorem below_set6 {R : Nat} {w w' : World} (h : Below R w w') (a0 a1 a2 a3 a4 a5 : Value) : Below R w ((((((w'.setCell ⟨R, 0, none⟩ a0).setCell ⟨R, 1, none⟩ a1).setCell ⟨R, 2, none⟩ a2).setCell ⟨R, 3, none⟩ a3).setCell ⟨R, 4, none⟩ a4).setCell ⟨R, 5, none⟩ a5) :=
  below_setN (below_set5 h a0 a1 a2 a3 a4) (Nat.le_refl _) 5 a5
theorem NodeAt.ret {W : World} {B fr up cn cl : Nat} {kd : Int} {S N L : Value} (h : NodeAt W B kd fr up S N L cn cl) (a0 a1 a2 a3 a4 a5 : Value) :
    ((((((W.setCell ⟨B, 0, none⟩ a0).setCell ⟨B, 1, none⟩ a1).setCell ⟨B, 2, none⟩ a2).setCell ⟨B, 3, none⟩ a3).setCell ⟨B, 4, none⟩ a4).setCell ⟨B, 5, none⟩ a5).heap[B]? = some (.cells #[a0, a1, a2, a3, a4, a5] 71 (0, 0)) := by
  obtain ⟨c0, c1, c2, c3, c4, c5, hc⟩ := h.res
  rw [heap_setCell (heap_setCell (heap_setCell (heap_setCell (heap_setCell (heap_setCell hc 0 _) 1 _) 2 _) 3 _) 4 _) 5 _]
  rfl
end Go.Proofs.YtaecbclonmhbcaaGreatDoor
