/- laws.knownLexer. -/
import Derived.Test.YtaecbclonmhbcaaGreatDoorLexTwo
import Derived.Lib.SlBytesConst
namespace Go.Proofs.YtaecbclonmhbcaaGreatDoor
open Go.RowKit

theorem known_bytes (w : World) (o2 : Obj) : BytesAt ((w.alloc (.cells #[.int .u8 32, .int .u8 49, .int .u8 50, .int .u8 32, .int .u8 34, .int .u8 97, .int .u8 92, .int .u8 110, .int .u8 34] 5 (9, 10))).alloc o2) (fun _ => False) (.slice (some ⟨w.heap.size, 0, none⟩) 9 9) knownD := by
  refine .inr ⟨w.heap.size, 0, 9, rfl, by decide, ⟨id, by simp; omega⟩, fun i hi => ?_⟩
  have hh : ((w.alloc (.cells #[.int .u8 32, .int .u8 49, .int .u8 50, .int .u8 32, .int .u8 34, .int .u8 97, .int .u8 92, .int .u8 110, .int .u8 34] 5 (9, 10))).alloc o2).heap[w.heap.size]? = _ := (heap_alloc_lt (by simp)).trans (heap_alloc_new w _)
  match i, hi with
  | 0, _ => exact cell_of_heap hh 0 rfl
  | 1, _ => exact cell_of_heap hh 1 rfl
  | 2, _ => exact cell_of_heap hh 2 rfl
  | 3, _ => exact cell_of_heap hh 3 rfl
  | 4, _ => exact cell_of_heap hh 4 rfl
  | 5, _ => exact cell_of_heap hh 5 rfl
  | 6, _ => exact cell_of_heap hh 6 rfl
  | 7, _ => exact cell_of_heap hh 7 rfl
  | 8, _ => exact cell_of_heap hh 8 rfl
theorem known_calls (w : World) (o1 : Obj) : CallsAt ((w.alloc o1).alloc (.cells #[.int .i64 24, .int .i64 0, .slice none 0 0, .int .i64 13, .int .i64 0, .slice none 0 0] 27)) (w.heap.size + 1) 0 [(24, 0), (13, 0)] := by
  have hh := heap_alloc2_new w o1 (.cells #[.int .i64 24, .int .i64 0, .slice none 0 0, .int .i64 13, .int .i64 0, .slice none 0 0] 27)
  intro k hk
  match k, hk with
  | 0, _ => exact ⟨cell_of_heap hh 0 rfl, cell_of_heap hh 1 rfl, cell_of_heap hh 2 rfl⟩
  | 1, _ => exact ⟨cell_of_heap hh 3 rfl, cell_of_heap hh 4 rfl, cell_of_heap hh 5 rfl⟩

theorem below_end {w w1 w2 : World} {a c o : Obj} {n : Nat} (h : Below ((w.alloc a).alloc c).heap.size ((w.alloc a).alloc c) w1) (h2 : w2 = (w1.alloc o).drewN n) : Below w.heap.size w w2 := by
  have hs : ((w.alloc a).alloc c).heap.size = w.heap.size + 2 := by simp
  have h1 : Below w.heap.size w ((w.alloc a).alloc c) := ((Below.refl w.heap.size w).alloc (Nat.le_refl _) a).alloc (by simp) c
  have h3 : Below w.heap.size w w1 := h1.trans (h.mono (by omega))
  have h4 := h3.alloc h3.size o
  rw [h2]
  exact ⟨h4.os, h4.tape, h4.output, h4.size, h4.block⟩

set_option maxHeartbeats 4000000 in
set_option maxRecDepth 100000 in
theorem known_any {w : World} {ae : Sur} {ao : Addr} (he : Env w ae ao) (_h2 : 1 < w.heap.size) :
    Calls Tryz.prog 12 #[] w fun e w' => e = .returned (.bool true) ∧ Below w.heap.size w w' := by
  have kc := fun (W : World) (C : Array Value) (n c : Nat) => Lib.run_convert_bytes_const (P := Tryz.prog) W 22 5 C n c Tryz.underlying22 Tryz.underlying5
  have kb : ∀ W : World, BytesAt (W.alloc (.cells #[.int .u8 97, .int .u8 10] 5 (2, 3))) (fun _ => False) (.slice (some ⟨W.heap.size, 0, none⟩) 2 2) [97, 10] := fun W =>
    .inr ⟨W.heap.size, 0, 2, rfl, by decide, ⟨id, by simp⟩, fun i hi => by
      match i, hi with
      | 0, _ => exact cell_of_heap (heap_alloc_new W _) 0 rfl
      | 1, _ => exact cell_of_heap (heap_alloc_new W _) 1 rfl⟩
  have KB := Lib.hid kb
  clear kb
  go_enter Tryz.func12, Tryz.ntmps12
  go_wp2_with (first
    | (go_at_call 13; refine (lex_known (known_bytes w _) (ae := ae) (ao := ao) ((he.grown (World.grownBy_alloc _ _ none) (by simp) (by simp)).grown (World.grownBy_alloc _ _ none) (by simp) (by simp)) (by simp) (w.heap.size + 1) 0 2 (known_calls w _) (by simp)).mono ?_; intro e w1 h0; obtain ⟨v', s, he1, hown, hbt, hbel⟩ := h0; subst he1; obtain ⟨g, cap, cur, hv, -⟩ : ∃ g cap cur, v' = .slice (some ⟨g, 0, none⟩) 2 cap ∧ w1.heap[g]? = some (.cells cur 30 (0, 0)) := (by rcases hown.2 with ⟨-, h⟩ | ⟨g, cap, cur, h1, -, h2, -⟩; exact absurd h (by decide); exact ⟨g, cap, cur, h1, h2⟩); subst hv; have y0 := hown.cellAt 0 (by decide); have y5 := hown.cellAt 5 (by decide); have y6 := hown.cellAt 6 (by decide); simp only [List.getElem?_cons_succ, List.getElem?_cons_zero] at y0 y5 y6; obtain ⟨sp, sc, rfl⟩ := (hbt (fun _ => False) (fun _ a => a.elim)).isSlice; have HBT := Lib.hid hbt; have HBL := Lib.hid hbel; clear hown hbt hbel)
    | (go_at_call 24; refine (equal_an ((HBT.out (fun _ => False) (fun _ a => a.elim)).grown (World.grownBy_alloc _ _ none) (by simp)) (KB.out _)).mono ?_; rintro e w2 ⟨rfl, n, hn⟩; have y6' : w2.cell? ⟨g, 6, none⟩ = some (.int .i64 0) := (by rw [hn, World.cell?_drewN]; exact (World.grownBy_alloc w1 _ none).cell y6 (by simp)); have HB2 : RowKit.Hid (Below w.heap.size w w2) := below_end HBL.out hn; clear hn))
  go_ret
  exact ⟨rfl, HB2.out⟩
end Go.Proofs.YtaecbclonmhbcaaGreatDoor
