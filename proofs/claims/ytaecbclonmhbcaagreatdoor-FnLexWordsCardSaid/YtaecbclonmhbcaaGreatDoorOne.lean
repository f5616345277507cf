/- laws.one. -/
import Derived.Test.YtaecbclonmhbcaaGreatDoorKnows
import Derived.Laws.ResultCell
namespace Go.Proofs.YtaecbclonmhbcaaGreatDoor
open Go.RowKit

theorem results_cell_row_tmp {P : Program} {fn : Func} {p u : Tmp} {ty : TypeId} (h : fn.results = #[.cell p ty, .tmp u]) (tmps : Array Value) (w : World) (g : Nat) (t : TypeId) (cs : Array Value) (fr : Nat × Nat) (d : TypeDesc)
    (hp : tmps.getD p undef = .pointer (some ⟨g, 0, none⟩)) (hg : w.heap[g]? = some (.cells cs t fr))
    (hu : P.underlying ty = some d) (hd : (match d with | .struct _ | .array _ _ => true | _ => false) = true) (hi : (P.info? ty).map (·.size) = some cs.size) :
    (results fn tmps).run P w = .ok (.tuple #[.agg cs, tmps.getD u undef]) w := by
  rw [results_cell_tmp h, hp]
  simp [asAddr, run_loadVar_row w g t ty cs fr d hg hu hd hi]

theorem one_calls (w : World) (o1 : Obj) (op n : Int) : CallsAt ((w.alloc o1).alloc (.cells #[.int .i64 op, .int .i64 n, .slice none 0 0] 27)) (w.heap.size + 1) 0 [(op, n)] := by
  have hh := heap_alloc2_new w o1 (.cells #[.int .i64 op, .int .i64 n, .slice none 0 0] 27)
  intro k hk
  match k, hk with
  | 0, _ => exact ⟨cell_of_heap hh 0 rfl, cell_of_heap hh 1 rfl, cell_of_heap hh 2 rfl⟩

set_option maxHeartbeats 4000000 in
set_option maxRecDepth 100000 in
theorem one_law {w : World} {A : Nat → Prop} {v : Value} {l : List Int} {ae : Sur} {ao : Addr} (hv : BytesAt w A v l) (hl : l.length ≤ 1073741824) (hby : Bytes l) (he : Env w ae ao) (_h2 : 1 < w.heap.size) (op n : Int) (hok : OkCall (op, n)) :
    Calls Tryz.prog 14 #[v, .int .i64 op, .int .i64 n] w fun e w' =>
      e = .returned (.tuple #[gotV (callN (op, n) (Lx.begin l false)) (.slice none 0 0) (callX (op, n) (Lx.begin l false)).err.num (callX (op, n) (Lx.begin l false)).pos, .bool true]) ∧ Below w.heap.size w w' := by
  obtain ⟨N, hN⟩ : ∃ N : Int, N = callN (op, n) (Lx.begin l false) := ⟨_, rfl⟩
  obtain ⟨q, hq⟩ : ∃ q : Int, q = (callX (op, n) (Lx.begin l false)).err.num := ⟨_, rfl⟩
  obtain ⟨r, hr⟩ : ∃ r : Int, r = ((callX (op, n) (Lx.begin l false)).pos : Int) := ⟨_, rfl⟩
  rw [← hN, ← hq, ← hr]
  have HN := Lib.hid hN
  have HQ := Lib.hid hq
  have HRR := Lib.hid hr
  clear hN hq hr
  go_enter Tryz.func14, Tryz.ntmps14
  go_wp2_with (go_at_call 13; refine (lex_any ((hv.grown (World.grownBy_alloc _ _ none) (by simp)).grown (World.grownBy_alloc _ _ none) (by simp)) hl hby ((he.grown (World.grownBy_alloc _ _ none) (by simp) (by simp)).grown (World.grownBy_alloc _ _ none) (by simp) (by simp)) (by simp) [(op, n)] (by simpa using hok) (by simp) (w.heap.size + 1) 0 1 (one_calls w _ op n) (by simp)).mono ?_; intro e w1 h0; obtain ⟨v1, he1, hown, hbel⟩ := h0; subst he1; obtain ⟨g, cap, cur, hv1, hcur⟩ : ∃ g cap cur, v1 = .slice (some ⟨g, 0, none⟩) 1 cap ∧ w1.heap[g]? = some (.cells cur 30 (0, 0)) := (by rcases hown.2 with ⟨-, h⟩ | ⟨g, cap, cur, h1, -, h2, -⟩; exact absurd h (by simp); exact ⟨g, cap, cur, h1, h2⟩); subst hv1; have hxs : gotCells (gots [(op, n)] (Lx.begin l false)) = [.int .i64 N, .slice none 0 0, .int .i64 q, .int .i64 r] := (by rw [HN.out, HQ.out, HRR.out]; rfl); rw [hxs] at hown; have y0 := hown.cellAt 0 (by simp); have y1 := hown.cellAt 1 (by simp); have y2 := hown.cellAt 2 (by simp); have y3 := hown.cellAt 3 (by simp); simp only [List.getElem?_cons_succ, List.getElem?_cons_zero] at y0 y1 y2 y3; have hs0 := (hbel.block w.heap.size (by simp; omega)).trans (heap_alloc2_old w _ _); have u0 := cell_of_heap hs0 0 rfl; have u1 := cell_of_heap hs0 1 rfl; have u2 := cell_of_heap hs0 2 rfl; have u3 := cell_of_heap hs0 3 rfl; have t0 := free_of_heap hs0 0; have t1 := free_of_heap hs0 1; have t2 := free_of_heap hs0 2; have t3 := free_of_heap hs0 3; have HS := Lib.hid hs0; have HBL := Lib.hid hbel; clear hown hbel hxs hs0 hcur)
  (try simp only [Exit.inBlock, Exit.then])
  refine bodyPost_ret (v := .tuple #[gotV N (.slice none 0 0) q r, .bool true]) ?_ rfl ⟨rfl, ?_⟩
  · refine results_cell_row_tmp (p := 6) (u := 7) (ty := 30) rfl _ _ w.heap.size 30 _ (0, 0) _ (by rfl) (heap_setCell (heap_setCell (heap_setCell (heap_setCell HS.out 0 _) 1 _) 2 _) 3 _) Tryz.underlying30 rfl (by kernel_rfl)
  · have hs : ∀ (a c : Obj), ((w.alloc a).alloc c).heap.size = w.heap.size + 2 := fun a c => by simp
    have h1 := HBL.out.mono (B' := w.heap.size) (by rw [hs]; omega)
    have h3 := (((Below.refl w.heap.size w).alloc (Nat.le_refl _) _).alloc (by simp) _).trans h1
    exact (((h3.setCell (p := ⟨w.heap.size, 0, none⟩) (Nat.le_refl _) _).setCell (p := ⟨w.heap.size, 1, none⟩) (Nat.le_refl _) _).setCell (p := ⟨w.heap.size, 2, none⟩) (Nat.le_refl _) _).setCell (p := ⟨w.heap.size, 3, none⟩) (Nat.le_refl _) _
end Go.Proofs.YtaecbclonmhbcaaGreatDoor
