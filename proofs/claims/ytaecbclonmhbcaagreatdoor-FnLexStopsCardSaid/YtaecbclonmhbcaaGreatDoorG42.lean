/- impl.Lex as knownLexer calls it. laws.knownLexer. laws.one. impl.Lex over a row of calls, at whatever slice of bytes comes in. -/
import Derived.Test.YtaecbclonmhbcaaGreatDoorG41
import Derived.Test.YtaecbclonmhbcaaGreatDoorG36
import Derived.Lib.SlBytesConst
import Derived.Laws.ResultCell
import Derived.Test.YtaecbclonmhbcaaGreatDoorG23
set_option linter.unusedVariables false
set_option linter.unusedSimpArgs false
/- impl.Lex as knownLexer calls it. -/
namespace Go.Proofs.YtaecbclonmhbcaaGreatDoor
open Go.RowKit

/-- The known text: a blank, 12, a blank, and a\n between quotes. -/
def knownD : List Int := [32, 49, 50, 32, 34, 97, 92, 110, 34]
def kx0 : Lx := Lx.begin knownD false
def kx1 : Lx := kx0.num
def kx2 : Lx := { kx1.fetch with tok := [97, 10], cl := true }.consume
theorem kx0_ok : kx0.num.ok = true := by decide
theorem kx0_v : kx0.numV = ⟨#[49, 50]⟩ := by decide
theorem kx1_kind : kx1.kind = 0 := by decide
theorem kx1_ok : kx1.ok = true := by decide
theorem kx1_ok2 : kx1.fetch.ok = true := by decide
theorem kx1_kind2 : kx1.fetch.kind = 2 := by decide
theorem kx1_tok : kx1.fetch.tok = [97, 92, 110] := by decide
theorem kx1_err : kx1.err = .nil := by rfl
theorem kx2_err : kx2.err = .nil := by rfl

theorem kx0_wf : kx0.Wf := ⟨by decide, by decide, by decide, fun i => by
  rcases i with _ | _ | _ | _ | _ | _ | _ | _ | _ | i <;> first | decide | (show 0 ≤ (knownD.getD _ 0) ∧ (knownD.getD _ 0) ≤ 255; simp [knownD])⟩
theorem kx1_wf : kx1.Wf := by
  have h := peek_wf kx0_wf
  exact (show kx0.peek.numS.Wf from by unfold Lx.numS; split; exact h.fail; exact h.consume)

set_option maxHeartbeats 4000000 in
set_option maxRecDepth 100000 in
theorem lex_known {w : World} {A : Nat → Prop} {v : Value} {ae : Sur} {ao : Addr} (hv : BytesAt w A v knownD) (he : Env w ae ao) (h2 : 1 < w.heap.size)
    (cb co cc : Nat) (hcs : CallsAt w cb co [(24, 0), (13, 0)]) (hcb : cb < w.heap.size) :
    Calls Tryz.prog 13 #[v, .bool false, .slice (some ⟨cb, co, none⟩) 2 cc] w fun e w' =>
      ∃ v' s, e = .returned v' ∧ w'.ownsRow w.heap.size 30 4 v' 2 [.int .i64 12, .slice none 0 0, .int .i64 0, .int .i64 kx1.pos, .int .i64 0, s, .int .i64 0, .int .i64 kx2.pos] ∧
        (∀ A : Nat → Prop, (∀ k, A k → k < w.heap.size) → BytesAt w' A s [97, 10]) ∧ Below w.heap.size w w' := by
  have HCS := Lib.hid hcs
  have HCB := Lib.hid hcb
  clear hcs hcb
  go_enter Tryz.func13, Tryz.ntmps13
  go_wp2_with (go_at_call 25; refine (lexer_any (ae := ⟨ae.addr, fun _ => False⟩) hv (by decide) ⟨he.eof, he.other, he.ne⟩ (fun _ a => a.elim) h2 false).mono ?_; rintro e w1 ⟨b, vd, rfl, hb, hg, hlx⟩)
  have hB0 := (Below.refl w.heap.size w).grown hg (Nat.le_refl _) (by simp)
  have hblt := hlx.lt
  have hL0 : LexAt w1 b (ae.own (.slice none 0 0)) ao kx0 vd (.slice none 0 0) .nilIface (.slice none 0 0) := hlx.move (grownBy_self (r := none) _) (by simp) rfl (by
    rintro j hj (e | e)
    · exact .inl e
    · cases e) (fun j e => by cases e)
  have q0 := (hB0.cell (p := ⟨cb, co + 0 * 3, none⟩) HCB.out).trans (HCS.out 0 (by decide)).1
  have q1 := (hB0.cell (p := ⟨cb, co + 0 * 3 + 1, none⟩) HCB.out).trans (HCS.out 0 (by decide)).2.1
  have q2 := (hB0.cell (p := ⟨cb, co + 0 * 3 + 2, none⟩) HCB.out).trans (HCS.out 0 (by decide)).2.2
  have HB0 := Lib.hid hB0
  have HL0 := Lib.hid hL0
  clear hB0 hL0 hlx hg hv he
  simp only [Nat.zero_mul, Nat.add_zero] at q0 q1 q2
  refine wp_loop_rounds 3 ?_
  rw [rounds_succ]
  go_wp2_with (first
    | (go_at_call 26; refine (call_24 (HL0.out.alloc _) kx0_wf rfl kx0_ok kx0_v 0 none 0 0 (by show kx1.err ≠ .other; rw [kx1_err]; simp)).mono ?_; intro e w2 hD0; obtain ⟨he, hD⟩ := CallDone.split hD0; clear hD0; subst he; obtain ⟨vt1, ve1, g1, g2⟩ := hD; unfold gotV; obtain ⟨v', w3, hr, ho, hl', hb', -⟩ := round_step (s := .slice none 0 0) rfl (n := 12) (q := kx0.num.err.num) (p := (kx0.num.pos : Int)) (World.grownBy_alloc _ _ none) g2 (World.ownsRow_nil w1 (b + 1) 30 4) (by omega) g1 hb hblt; have HR := Lib.hid hr; have HN := Lib.hid ho; have HL3 := Lib.hid hl'; have HB3 := Lib.hid (HB0.out.trans hb'); clear hr ho hl' hb' g1 g2)
    | (at_builtin; refine Lib.wpList_append_run_sl _ rfl _ _ 24 rfl _ _ rfl rfl HR.out ?_))
  have q3 := (HB3.out.cell (p := ⟨cb, co + 1 * 3, none⟩) HCB.out).trans (HCS.out 1 (by decide)).1
  have q4 := (HB3.out.cell (p := ⟨cb, co + 1 * 3 + 1, none⟩) HCB.out).trans (HCS.out 1 (by decide)).2.1
  have q5 := (HB3.out.cell (p := ⟨cb, co + 1 * 3 + 2, none⟩) HCB.out).trans (HCS.out 1 (by decide)).2.2
  simp only [Nat.one_mul, Nat.add_assoc] at q3 q4 q5
  have hblt3 := HL3.out.lt
  rw [rounds_succ]
  go_wp2_with (first
    | (go_at_call 26; refine (call_13 (HL3.out.alloc _) kx1_wf kx1_kind kx1_ok kx1_ok2 kx1_kind2 kx1_tok 0 none 0 0 (by show kx2.err ≠ .other; rw [kx2_err]; simp)).mono ?_; intro e w4 h10; obtain ⟨tv, he1, hbt, vt2, ve2, g3, g4⟩ := TextDone.split h10; clear h10; subst he1; unfold gotV; obtain ⟨tp, tc, rfl⟩ := (hbt (fun _ => False) (fun _ a => a.elim)).isSlice; obtain ⟨v2, w5, hr, ho, hl', hb', hgr⟩ := round_step (s := .slice tp 2 tc) rfl (n := 0) (q := kx2.err.num) (p := (kx2.pos : Int)) (World.grownBy_alloc _ _ none) g4 HN.out (by omega) g3 hb hblt3; have HR2 := Lib.hid hr; have HN2 := Lib.hid ho; have HB4 := Lib.hid (HB3.out.trans hb'); have HGR := Lib.hid hgr; have HBT := Lib.hid hbt; clear hr ho hl' hb' hgr hbt g3 g4)
    | (at_builtin; refine Lib.wpList_append_run_sl _ rfl _ _ 24 rfl _ _ rfl rfl HR2.out ?_))
  rw [rounds_succ]
  go_wp2
  go_ret
  refine ⟨_, .slice tp 2 tc, rfl, ownsRow_base HN2.out (by omega), fun A hA => ?_, HB4.out⟩
  have h0 := HBT.out (fun k => A k ∨ v'.ownBlock = some k) (by
    rintro k (a | e)
    · have := hA k a; have := HB3.out.size; simp; omega
    · have := (HN.out.lt k e).2; simp; omega)
  exact (((h0.grown (World.grownBy_alloc w4 _ none) (by simp)).grown HGR.out (fun k e => .inr e))).other (fun k _ a => .inl a)

set_option maxHeartbeats 4000000 in
set_option maxRecDepth 100000 in
theorem equal_an {w : World} {A B : Nat → Prop} {v u : Value} (hv : BytesAt w A v [97, 10]) (hu : BytesAt w B u [97, 10]) :
    Calls Tryz.prog 24 #[v, u] w fun e w' => e = .returned (.bool true) ∧ ∃ n, w' = w.drewN n := by
  rcases hv with ⟨h0, -⟩ | ⟨b1, o1, c1, rfl, hc1, -, hx1⟩
  · cases h0
  rcases hu with ⟨h0, -⟩ | ⟨b2, o2, c2, rfl, hc2, -, hx2⟩
  · cases h0
  have x0 : w.cell? ⟨b1, o1, none⟩ = some (.int .u8 97) := hx1 0 (by decide)
  have x1 : w.cell? ⟨b1, o1 + 1, none⟩ = some (.int .u8 10) := hx1 1 (by decide)
  have y0 : w.cell? ⟨b2, o2, none⟩ = some (.int .u8 97) := hx2 0 (by decide)
  have y1 : w.cell? ⟨b2, o2 + 1, none⟩ = some (.int .u8 10) := hx2 1 (by decide)
  clear hx1 hx2
  go_enter Tryz.func24, Tryz.ntmps24
  go_wp2
  refine wp_loop_rounds 3 ?_
  rw [rounds_succ]
  go_wp2
  go_quiet (fail)
  go_wp2
  rw [rounds_succ]
  go_wp2
  go_quiet (fail)
  go_wp2
  rw [rounds_succ]
  go_wp2
  go_ret
  exact ⟨rfl, _, rfl⟩
end Go.Proofs.YtaecbclonmhbcaaGreatDoor

/- laws.knownLexer. -/
namespace Go.Proofs.YtaecbclonmhbcaaGreatDoor
open Go.RowKit

theorem known_bytes (w : World) (o2 : Obj) : BytesAt ((w.alloc (.cells #[.int .u8 32, .int .u8 49, .int .u8 50, .int .u8 32, .int .u8 34, .int .u8 97, .int .u8 92, .int .u8 110, .int .u8 34] 5 (9, 10))).alloc o2) (fun _ => False) (.slice (some ⟨w.heap.size, 0, none⟩) 9 9) knownD := by
  refine .inr ⟨w.heap.size, 0, 9, rfl, by decide, ⟨id, by simp; omega⟩, fun i hi => ?_⟩
  have hh : ((w.alloc (.cells #[.int .u8 32, .int .u8 49, .int .u8 50, .int .u8 32, .int .u8 34, .int .u8 97, .int .u8 92, .int .u8 110, .int .u8 34] 5 (9, 10))).alloc o2).heap[w.heap.size]? = _ := (heap_alloc_lt (by simp)).trans (heap_alloc_new w _)
  match i, hi with
  | 0, _ => exact cell_of_heap hh 0 rfl
  | 1, _ => exact cell_of_heap hh 1 rfl
  | 2, _ => exact cell_of_heap hh 2 rfl
  | 3, _ => exact cell_of_heap hh 3 rfl
  | 4, _ => exact cell_of_heap hh 4 rfl
  | 5, _ => exact cell_of_heap hh 5 rfl
  | 6, _ => exact cell_of_heap hh 6 rfl
  | 7, _ => exact cell_of_heap hh 7 rfl
  | 8, _ => exact cell_of_heap hh 8 rfl
theorem known_calls (w : World) (o1 : Obj) : CallsAt ((w.alloc o1).alloc (.cells #[.int .i64 24, .int .i64 0, .slice none 0 0, .int .i64 13, .int .i64 0, .slice none 0 0] 27)) (w.heap.size + 1) 0 [(24, 0), (13, 0)] := by
  have hh := heap_alloc2_new w o1 (.cells #[.int .i64 24, .int .i64 0, .slice none 0 0, .int .i64 13, .int .i64 0, .slice none 0 0] 27)
  intro k hk
  match k, hk with
  | 0, _ => exact ⟨cell_of_heap hh 0 rfl, cell_of_heap hh 1 rfl, cell_of_heap hh 2 rfl⟩
  | 1, _ => exact ⟨cell_of_heap hh 3 rfl, cell_of_heap hh 4 rfl, cell_of_heap hh 5 rfl⟩

theorem below_end {w w1 w2 : World} {a c o : Obj} {n : Nat} (h : Below ((w.alloc a).alloc c).heap.size ((w.alloc a).alloc c) w1) (h2 : w2 = (w1.alloc o).drewN n) : Below w.heap.size w w2 := by
  have hs : ((w.alloc a).alloc c).heap.size = w.heap.size + 2 := by simp
  have h1 : Below w.heap.size w ((w.alloc a).alloc c) := ((Below.refl w.heap.size w).alloc (Nat.le_refl _) a).alloc (by simp) c
  have h3 : Below w.heap.size w w1 := h1.trans (h.mono (by omega))
  have h4 := h3.alloc h3.size o
  rw [h2]
  exact ⟨h4.os, h4.tape, h4.output, h4.size, h4.block⟩

set_option maxHeartbeats 4000000 in
set_option maxRecDepth 100000 in
theorem known_any {w : World} {ae : Sur} {ao : Addr} (he : Env w ae ao) (_h2 : 1 < w.heap.size) :
    Calls Tryz.prog 12 #[] w fun e w' => e = .returned (.bool true) ∧ Below w.heap.size w w' := by
  have kc := fun (W : World) (C : Array Value) (n c : Nat) => Lib.run_convert_bytes_const (P := Tryz.prog) W 22 5 C n c Tryz.underlying22 Tryz.underlying5
  have kb : ∀ W : World, BytesAt (W.alloc (.cells #[.int .u8 97, .int .u8 10] 5 (2, 3))) (fun _ => False) (.slice (some ⟨W.heap.size, 0, none⟩) 2 2) [97, 10] := fun W =>
    .inr ⟨W.heap.size, 0, 2, rfl, by decide, ⟨id, by simp⟩, fun i hi => by
      match i, hi with
      | 0, _ => exact cell_of_heap (heap_alloc_new W _) 0 rfl
      | 1, _ => exact cell_of_heap (heap_alloc_new W _) 1 rfl⟩
  have KB := Lib.hid kb
  clear kb
  go_enter Tryz.func12, Tryz.ntmps12
  go_wp2_with (first
    | (go_at_call 13; refine (lex_known (known_bytes w _) (ae := ae) (ao := ao) ((he.grown (World.grownBy_alloc _ _ none) (by simp) (by simp)).grown (World.grownBy_alloc _ _ none) (by simp) (by simp)) (by simp) (w.heap.size + 1) 0 2 (known_calls w _) (by simp)).mono ?_; intro e w1 h0; obtain ⟨v', s, he1, hown, hbt, hbel⟩ := h0; subst he1; obtain ⟨g, cap, cur, hv, -⟩ : ∃ g cap cur, v' = .slice (some ⟨g, 0, none⟩) 2 cap ∧ w1.heap[g]? = some (.cells cur 30 (0, 0)) := (by rcases hown.2 with ⟨-, h⟩ | ⟨g, cap, cur, h1, -, h2, -⟩; exact absurd h (by decide); exact ⟨g, cap, cur, h1, h2⟩); subst hv; have y0 := hown.cellAt 0 (by decide); have y5 := hown.cellAt 5 (by decide); have y6 := hown.cellAt 6 (by decide); simp only [List.getElem?_cons_succ, List.getElem?_cons_zero] at y0 y5 y6; obtain ⟨sp, sc, rfl⟩ := (hbt (fun _ => False) (fun _ a => a.elim)).isSlice; have HBT := Lib.hid hbt; have HBL := Lib.hid hbel; clear hown hbt hbel)
    | (go_at_call 24; refine (equal_an ((HBT.out (fun _ => False) (fun _ a => a.elim)).grown (World.grownBy_alloc _ _ none) (by simp)) (KB.out _)).mono ?_; rintro e w2 ⟨rfl, n, hn⟩; have y6' : w2.cell? ⟨g, 6, none⟩ = some (.int .i64 0) := (by rw [hn, World.cell?_drewN]; exact (World.grownBy_alloc w1 _ none).cell y6 (by simp)); have HB2 : RowKit.Hid (Below w.heap.size w w2) := below_end HBL.out hn; clear hn))
  go_ret
  exact ⟨rfl, HB2.out⟩
end Go.Proofs.YtaecbclonmhbcaaGreatDoor

/- laws.one. -/
namespace Go.Proofs.YtaecbclonmhbcaaGreatDoor
open Go.RowKit

theorem results_cell_row_tmp {P : Program} {fn : Func} {p u : Tmp} {ty : TypeId} (h : fn.results = #[.cell p ty, .tmp u]) (tmps : Array Value) (w : World) (g : Nat) (t : TypeId) (cs : Array Value) (fr : Nat × Nat) (d : TypeDesc)
    (hp : tmps.getD p undef = .pointer (some ⟨g, 0, none⟩)) (hg : w.heap[g]? = some (.cells cs t fr))
    (hu : P.underlying ty = some d) (hd : (match d with | .struct _ | .array _ _ => true | _ => false) = true) (hi : (P.info? ty).map (·.size) = some cs.size) :
    (results fn tmps).run P w = .ok (.tuple #[.agg cs, tmps.getD u undef]) w := by
  rw [results_cell_tmp h, hp]
  simp [asAddr, run_loadVar_row w g t ty cs fr d hg hu hd hi]

theorem one_calls (w : World) (o1 : Obj) (op n : Int) : CallsAt ((w.alloc o1).alloc (.cells #[.int .i64 op, .int .i64 n, .slice none 0 0] 27)) (w.heap.size + 1) 0 [(op, n)] := by
  have hh := heap_alloc2_new w o1 (.cells #[.int .i64 op, .int .i64 n, .slice none 0 0] 27)
  intro k hk
  match k, hk with
  | 0, _ => exact ⟨cell_of_heap hh 0 rfl, cell_of_heap hh 1 rfl, cell_of_heap hh 2 rfl⟩

set_option maxHeartbeats 4000000 in
set_option maxRecDepth 100000 in
theorem one_law {w : World} {A : Nat → Prop} {v : Value} {l : List Int} {ae : Sur} {ao : Addr} (hv : BytesAt w A v l) (hl : l.length ≤ 1073741824) (hby : Bytes l) (he : Env w ae ao) (_h2 : 1 < w.heap.size) (op n : Int) (hok : OkCall (op, n)) :
    Calls Tryz.prog 14 #[v, .int .i64 op, .int .i64 n] w fun e w' =>
      e = .returned (.tuple #[gotV (callN (op, n) (Lx.begin l false)) (.slice none 0 0) (callX (op, n) (Lx.begin l false)).err.num (callX (op, n) (Lx.begin l false)).pos, .bool true]) ∧ Below w.heap.size w w' := by
  obtain ⟨N, hN⟩ : ∃ N : Int, N = callN (op, n) (Lx.begin l false) := ⟨_, rfl⟩
  obtain ⟨q, hq⟩ : ∃ q : Int, q = (callX (op, n) (Lx.begin l false)).err.num := ⟨_, rfl⟩
  obtain ⟨r, hr⟩ : ∃ r : Int, r = ((callX (op, n) (Lx.begin l false)).pos : Int) := ⟨_, rfl⟩
  rw [← hN, ← hq, ← hr]
  have HN := Lib.hid hN
  have HQ := Lib.hid hq
  have HRR := Lib.hid hr
  clear hN hq hr
  go_enter Tryz.func14, Tryz.ntmps14
  go_wp2_with (go_at_call 13; refine (lex_any ((hv.grown (World.grownBy_alloc _ _ none) (by simp)).grown (World.grownBy_alloc _ _ none) (by simp)) hl hby ((he.grown (World.grownBy_alloc _ _ none) (by simp) (by simp)).grown (World.grownBy_alloc _ _ none) (by simp) (by simp)) (by simp) [(op, n)] (by simpa using hok) (by simp) (w.heap.size + 1) 0 1 (one_calls w _ op n) (by simp)).mono ?_; intro e w1 h0; obtain ⟨v1, he1, hown, hbel⟩ := h0; subst he1; obtain ⟨g, cap, cur, hv1, hcur⟩ : ∃ g cap cur, v1 = .slice (some ⟨g, 0, none⟩) 1 cap ∧ w1.heap[g]? = some (.cells cur 30 (0, 0)) := (by rcases hown.2 with ⟨-, h⟩ | ⟨g, cap, cur, h1, -, h2, -⟩; exact absurd h (by simp); exact ⟨g, cap, cur, h1, h2⟩); subst hv1; have hxs : gotCells (gots [(op, n)] (Lx.begin l false)) = [.int .i64 N, .slice none 0 0, .int .i64 q, .int .i64 r] := (by rw [HN.out, HQ.out, HRR.out]; rfl); rw [hxs] at hown; have y0 := hown.cellAt 0 (by simp); have y1 := hown.cellAt 1 (by simp); have y2 := hown.cellAt 2 (by simp); have y3 := hown.cellAt 3 (by simp); simp only [List.getElem?_cons_succ, List.getElem?_cons_zero] at y0 y1 y2 y3; have hs0 := (hbel.block w.heap.size (by simp; omega)).trans (heap_alloc2_old w _ _); have u0 := cell_of_heap hs0 0 rfl; have u1 := cell_of_heap hs0 1 rfl; have u2 := cell_of_heap hs0 2 rfl; have u3 := cell_of_heap hs0 3 rfl; have t0 := free_of_heap hs0 0; have t1 := free_of_heap hs0 1; have t2 := free_of_heap hs0 2; have t3 := free_of_heap hs0 3; have HS := Lib.hid hs0; have HBL := Lib.hid hbel; clear hown hbel hxs hs0 hcur)
  (try simp only [Exit.inBlock, Exit.then])
  refine bodyPost_ret (v := .tuple #[gotV N (.slice none 0 0) q r, .bool true]) ?_ rfl ⟨rfl, ?_⟩
  · refine results_cell_row_tmp (p := 6) (u := 7) (ty := 30) rfl _ _ w.heap.size 30 _ (0, 0) _ (by rfl) (heap_setCell (heap_setCell (heap_setCell (heap_setCell HS.out 0 _) 1 _) 2 _) 3 _) Tryz.underlying30 rfl (by kernel_rfl)
  · have hs : ∀ (a c : Obj), ((w.alloc a).alloc c).heap.size = w.heap.size + 2 := fun a c => by simp
    have h1 := HBL.out.mono (B' := w.heap.size) (by rw [hs]; omega)
    have h3 := (((Below.refl w.heap.size w).alloc (Nat.le_refl _) _).alloc (by simp) _).trans h1
    exact (((h3.setCell (p := ⟨w.heap.size, 0, none⟩) (Nat.le_refl _) _).setCell (p := ⟨w.heap.size, 1, none⟩) (Nat.le_refl _) _).setCell (p := ⟨w.heap.size, 2, none⟩) (Nat.le_refl _) _).setCell (p := ⟨w.heap.size, 3, none⟩) (Nat.le_refl _) _
end Go.Proofs.YtaecbclonmhbcaaGreatDoor

/- impl.Lex over a row of calls, at whatever slice of bytes comes in. -/
namespace Go.Proofs.YtaecbclonmhbcaaGreatDoor
open Go.RowKit

set_option maxHeartbeats 1000000 in
theorem owned_arg {w : World} {v : Value} {l : List Int} (h : BytesArg w v l) (hl : l.length ≤ 140737488355328) :
    Calls Tryz.prog 36 #[v] w fun e w' => ∃ v', e = .returned v' ∧ FreshAt w w' v' l := by
  rcases h with ⟨rfl, a, c, rfl⟩ | h
  · obtain ⟨i, hi, hzz⟩ := Option.map_eq_some_iff.1 info5
    have hr : (Builtin.append_ #[22, 22] 22 #[.slice none 0 0, .slice (some a) 0 c]).run Tryz.prog w = .ok (.slice none 0 0) w := by
      simp [Builtin.append_, run_underlying Tryz.underlying22, sizeOf, typeInfo, hi, Builtin.lenOf, Builtin.firstCells, loadCells, loadCellsFrom]
    go_enter Tryz.func36, Tryz.ntmps36
    go_wp2_with (at_builtin; refine Lib.wpList_append_run_sl _ rfl _ _ 22 rfl _ _ rfl rfl hr ?_)
    go_ret
    exact ⟨_, rfl, ⟨rfl, rfl, rfl, Nat.le_refl _, fun _ _ _ => rfl⟩, fun _ _ => .inl ⟨rfl, rfl⟩⟩
  · exact owned_any h hl
set_option maxHeartbeats 400000 in
theorem lexer_arg {w : World} {v : Value} {l : List Int} {ae : Sur} {ao : Addr} (h : BytesArg w v l) (hl : l.length ≤ 140737488355328) (he : Env w ae ao) (hh : ∀ k, ae.held k → k < w.heap.size) (h2 : 1 < w.heap.size) (m : Bool) :
    Calls Tryz.prog 25 #[v, .bool m] w fun e w' => ∃ b vd, e = .returned (.pointer (some ⟨b, 0, none⟩)) ∧ w.heap.size ≤ b ∧ w.grownBy w' none ∧ LexAt w' b ae ao (Lx.begin l m) vd (.slice none 0 0) .nilIface (.slice none 0 0) := by
  go_enter Tryz.func25, Tryz.ntmps25
  go_wp2_with (go_at_call 36; refine (owned_arg h hl).mono ?_; rintro e w1 ⟨v1, rfl, hgb⟩; obtain ⟨p1, c1, rfl⟩ := hgb.isSlice; obtain ⟨hg, hb⟩ := hgb)
  go_ret
  refine ⟨_, .slice p1 l.length c1, rfl, hg.size, ⟨hg.os, hg.tape, hg.output, Nat.le_trans hg.size (by simp), fun k hk hn => (heap_alloc_lt (Nat.lt_of_lt_of_le hk hg.size)).trans (hg.block k hk hn)⟩, ?_⟩
  have hga : w1.grownBy (w1.alloc (.cells (lxCells (.slice p1 l.length c1) (Lx.begin l m) (.slice none 0 0) .nilIface (.slice none 0 0)) 83)) none := World.grownBy_alloc w1 _ none
  have hs := hg.size
  refine ⟨heap_alloc_new w1 _, ?_, .inl ⟨rfl, rfl⟩, rfl, (he.grown hg (by simp) (by simp)).grown hga (by simp) (by simp), by omega, fun k hk => ?_⟩
  · refine BytesAt.grown (BytesAt.other (hb (fun k => ae.held k ∧ k < w.heap.size) fun k a => a.2) ?_) hga (by simp)
    rintro k hk (rfl | a)
    · omega
    · exact ⟨a, hh k a⟩
  · have := hh k hk; have := hga.size; exact Nat.lt_of_lt_of_le (by omega) this

set_option maxHeartbeats 4000000 in
set_option maxRecDepth 100000 in
theorem lex_arg {w : World} {v : Value} {l : List Int} {ae ao : Addr} (hv : BytesArg w v l) (hl : l.length ≤ 100000) (hby : Bytes l) (he : Env w ⟨ae, fun _ => False⟩ ao) (h2 : 1 < w.heap.size)
    (cs : List (Int × Int × Value)) (hok : ∀ c ∈ cs, CallOk w ae ao c.1) (hcl : cs.length ≤ 1000000) (cb co cc : Nat) (pv : Option Addr) (hpv : 0 < cs.length → pv = some ⟨cb, co, none⟩) (hcs : CallsIn w cb co cs) (hcb : cb < w.heap.size) :
    Calls Tryz.prog 13 #[v, .bool false, .slice pv cs.length cc] w fun e w' =>
      ∃ v' gs X, e = .returned v' ∧ Chain (Lx.begin l false) (cs.map (·.1)) gs X ∧ w'.ownsRow w.heap.size 30 4 v' cs.length (gotCs gs) ∧ Below w.heap.size w w' := by
  have HX := Lib.hid (begin_inv hl hby)
  have HOK := Lib.hid hok
  have HCS := Lib.hid hcs
  have HCB := Lib.hid hcb
  have HPV := Lib.hid hpv
  clear hok hcs hcb hpv
  go_enter Tryz.func13, Tryz.ntmps13
  go_wp2_with (go_at_call 25; refine (lexer_arg (ae := ⟨ae, fun _ => False⟩) hv (by omega) ⟨he.eof, he.other, he.ne⟩ (fun _ a => a.elim) h2 false).mono ?_; rintro e w1 ⟨b, vd, rfl, hb, hg, hlx⟩)
  have HB0 := Lib.hid ((Below.refl w.heap.size w).grown hg (Nat.le_refl _) (by simp))
  have HL0 := Lib.hid hlx
  clear hg hlx hv he
  go_loopw [8, 16] (fun v i wr => ∃ (k : Nat) (gs : List Gt) (X : Lx), i = .int .i64 k ∧ k ≤ cs.length ∧ Chain (Lx.begin l false) ((cs.take k).map (·.1)) gs X ∧ wr.ownsRow (b + 1) 30 4 v k (gotCs gs) ∧ Below w.heap.size w wr ∧
      ∃ vt ve, LexAt wr b (Sur.own ⟨ae, fun _ => False⟩ v) ao X vd vt ve (.slice none 0 0))
    (fun _ i _ => cs.length - (intOf i).toNat)
  case atStart =>
    refine ⟨0, [], _, rfl, Nat.zero_le _, .nil, World.ownsRow_nil _ _ _ _, HB0.out, _, _, HL0.out.move (grownBy_self (r := none) _) (by simp) rfl ?_ ?_⟩
    · rintro j hj (e | e)
      · exact .inl e
      · cases e
    · intro j e; cases e
  case round =>
    obtain ⟨k, gs, X, rfl, hk, hch, hown, hbel, vt, ve, hlr⟩ := hrel
    have HO := Lib.hid hown
    have HB := Lib.hid hbel
    have HL := Lib.hid hlr
    have HC := Lib.hid hch
    clear hown hbel hlr hch
    by_cases hlt : k < cs.length
    case neg =>
      obtain rfl : k = cs.length := by omega
      go_wp2
      go_ret
      have h := HC.out
      rw [List.take_length] at h
      exact ⟨_, gs, X, rfl, h, ownsRow_base HO.out (by omega), HB.out⟩
    case pos =>
      obtain rfl := HPV.out (by omega)
      obtain ⟨p3, s3, c3, hc3, q0', q1', q2'⟩ := HCS.out k hlt
      have q0 := (HB.out.cell (p := ⟨cb, co + k * 3, none⟩) HCB.out).trans q0'
      have q1 := (HB.out.cell (p := ⟨cb, co + k * 3 + 1, none⟩) HCB.out).trans q1'
      have q2 := (HB.out.cell (p := ⟨cb, co + k * 3 + 2, none⟩) HCB.out).trans q2'
      clear q0' q1' q2' hc3
      have HOC := Lib.hid (HOK.out (cs.getD k (0, 0, .nilIface)) (by simp [List.getD, hlt]))
      have HT := Lib.hid (take_snoc3 cs hlt)
      generalize cs.getD k (0, 0, .nilIface) = c at q0 q1 HOC HT
      obtain ⟨op, nn, c2⟩ := c
      simp only at q0 q1
      have HI := Lib.hid (HC.out.inv HX.out)
      have hbr := HL.out.lt
      go_wp2_with (first
        | (go_at_call 26; refine (HOC.out _ _ _ _ _ _ _ _ nn p3 s3 c3 rfl (HL.out.alloc _) HI.out hb (HB.out.alloc (by omega) _)).mono ?_; rintro e w2 ⟨X', n1, s1, hst, he, vt1, ve1, g1, g2⟩; obtain ⟨sp, sk, sc, hs, -⟩ := hst.sl; subst hs; subst he; unfold gotV; obtain ⟨n2, hn2⟩ : ∃ n2 : Int, n2 = X'.err.num := ⟨_, rfl⟩; obtain ⟨n3, hn3⟩ : ∃ n3 : Int, n3 = (X'.pos : Nat) := ⟨_, rfl⟩; rw [← hn2, ← hn3]; have HN2 := Lib.hid hn2; have HN3 := Lib.hid hn3; clear hn2 hn3; have HST := Lib.hid hst; clear hst; obtain ⟨v', w', hr, ho, hl', hb', -⟩ := round_step (s := .slice sp sk sc) rfl (n := n1) (q := n2) (p := n3) (World.grownBy_alloc _ _ none) g2 HO.out (by omega) g1 hb hbr; have HR := Lib.hid hr; have HN := Lib.hid ho; have HL3 := Lib.hid hl'; have HB3 := Lib.hid hb'; clear hr ho hl' hb' g1 g2)
        | (at_builtin; refine Lib.wpList_append_run_sl _ rfl _ _ 24 rfl _ _ rfl rfl HR.out ?_))
      go_roundw
      case rel =>
        refine ⟨k + 1, gs ++ [(n1, .slice sp sk sc, n2, n3)], X', by go_num, by omega, ?_, ?_, HB.out.trans HB3.out, vt1, ve1, HL3.out⟩
        · rw [HT.out, HN2.out, HN3.out]
          exact .snoc HC.out HST.out
        · rw [gotCs_snoc]
          exact HN.out
      case measure => simp [intOf]; omega
end Go.Proofs.YtaecbclonmhbcaaGreatDoor
