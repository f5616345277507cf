/- impl.Lex as knownLexer calls it. laws.knownLexer. The walk of FnLexAdded. json's scanner as it lies in memory; isSpace, quoteChar, error, and the stack of states. A lexer with several errors in memory: the row of its errors, what a call leaves as it was; addNonfatalError. The lexer in whatever mode, between the steps of a call. json's scanner: its stack of states. -/
import Derived.Test.YtaecbclonmhbcaaGreatDoorP35
import Derived.Test.YtaecbclonmhbcaaGreatDoorP33
import Derived.Lib.SlBytesConst
import Derived.Laws.ResultCell
import Derived.Test.YtaecbclonmhbcaaGreatDoorP32
import Derived.StillTailTactics
import Derived.Test.YtaecbclonmhbcaaGreatDoorP34
import Derived.Test.YtaecbclonmhbcaaGreatDoorP14
import Derived.Laws.Cover4
import Derived.Test.YtaecbclonmhbcaaGreatDoorP28
set_option linter.unusedVariables false
set_option linter.unusedSimpArgs false
namespace Go.Proofs.YtaecbclonmhbcaaGreatDoor
open Go.RowKit
def knownD : List Int := [32, 49, 50, 32, 34, 97, 92, 110, 34]
def kx0 : Lx := Lx.begin knownD false
def kx1 : Lx := kx0.num
def kx2 : Lx := { kx1.fetch with tok := [97, 10], cl := true }.consume
theorem kx0_ok : kx0.num.ok = true := by decide
theorem kx0_v : kx0.numV = ⟨#[49, 50]⟩ := by decide
theorem kx1_kind : kx1.kind = 0 := by decide
theorem kx1_ok : kx1.ok = true := by decide
theorem kx1_ok2 : kx1.fetch.ok = true := by decide
theorem kx1_kind2 : kx1.fetch.kind = 2 := by decide
theorem kx1_tok : kx1.fetch.tok = [97, 92, 110] := by decide
theorem kx1_err : kx1.err = .nil := by rfl
theorem kx2_err : kx2.err = .nil := by rfl
theorem kx0_wf : kx0.Wf := ⟨by decide, by decide, by decide, fun i => by
  rcases i with _ | _ | _ | _ | _ | _ | _ | _ | _ | i <;> first | decide | (show 0 ≤ (knownD.getD _ 0) ∧ (knownD.getD _ 0) ≤ 255; simp [knownD])⟩
theorem kx1_wf : kx1.Wf := by
  have h := peek_wf kx0_wf
  exact (show kx0.peek.numS.Wf from by unfold Lx.numS; split; exact h.fail; exact h.consume)
set_option maxHeartbeats 4000000 in
set_option maxRecDepth 100000 in
theorem lex_known {w : World} {A : Nat → Prop} {v : Value} {ae : Sur} {ao : Addr} (hv : BytesAt w A v knownD) (he : Env w ae ao) (h2 : 1 < w.heap.size)
    (cb co cc : Nat) (hcs : CallsAt w cb co [(24, 0), (13, 0)]) (hcb : cb < w.heap.size) :
    Calls Tryz.prog 13 #[v, .bool false, .slice (some ⟨cb, co, none⟩) 2 cc] w fun e w' =>
      ∃ v' s, e = .returned v' ∧ w'.ownsRow w.heap.size 30 4 v' 2 [.int .i64 12, .slice none 0 0, .int .i64 0, .int .i64 kx1.pos, .int .i64 0, s, .int .i64 0, .int .i64 kx2.pos] ∧
        (∀ A : Nat → Prop, (∀ k, A k → k < w.heap.size) → BytesAt w' A s [97, 10]) ∧ Below w.heap.size w w' := by
  have HCS := Lib.hid hcs
  have HCB := Lib.hid hcb
  clear hcs hcb
  go_enter Tryz.func13, Tryz.ntmps13
  go_wp2_with (go_at_call 25; refine (lexer_any (ae := ⟨ae.addr, fun _ => False⟩) hv (by decide) ⟨he.eof, he.other, he.ne⟩ (fun _ a => a.elim) h2 false).mono ?_; rintro e w1 ⟨b, vd, rfl, hb, hg, hlx⟩)
  have hB0 := (Below.refl w.heap.size w).grown hg (Nat.le_refl _) (by simp)
  have hblt := hlx.lt
  have hL0 : LexAt w1 b (ae.own (.slice none 0 0)) ao kx0 vd (.slice none 0 0) .nilIface (.slice none 0 0) := hlx.move (grownBy_self (r := none) _) (by simp) rfl (by
    rintro j hj (e | e)
    · exact .inl e
    · cases e) (fun j e => by cases e)
  have q0 := (hB0.cell (p := ⟨cb, co + 0 * 3, none⟩) HCB.out).trans (HCS.out 0 (by decide)).1
  have q1 := (hB0.cell (p := ⟨cb, co + 0 * 3 + 1, none⟩) HCB.out).trans (HCS.out 0 (by decide)).2.1
  have q2 := (hB0.cell (p := ⟨cb, co + 0 * 3 + 2, none⟩) HCB.out).trans (HCS.out 0 (by decide)).2.2
  have HB0 := Lib.hid hB0
  have HL0 := Lib.hid hL0
  clear hB0 hL0 hlx hg hv he
  simp only [Nat.zero_mul, Nat.add_zero] at q0 q1 q2
  refine wp_loop_rounds 3 ?_
  rw [rounds_succ]
  go_wp2_with (first
    | (go_at_call 26; refine (call_24 (HL0.out.alloc _) kx0_wf rfl kx0_ok kx0_v 0 none 0 0 (by show kx1.err ≠ .other; rw [kx1_err]; simp)).mono ?_; intro e w2 hD0; obtain ⟨he, hD⟩ := CallDone.split hD0; clear hD0; subst he; obtain ⟨vt1, ve1, g1, g2⟩ := hD; unfold gotV; obtain ⟨v', w3, hr, ho, hl', hb', -⟩ := round_step (s := .slice none 0 0) rfl (n := 12) (q := kx0.num.err.num) (p := (kx0.num.pos : Int)) (World.grownBy_alloc _ _ none) g2 (World.ownsRow_nil w1 (b + 1) 30 4) (by omega) g1 hb hblt; have HR := Lib.hid hr; have HN := Lib.hid ho; have HL3 := Lib.hid hl'; have HB3 := Lib.hid (HB0.out.trans hb'); clear hr ho hl' hb' g1 g2)
    | (at_builtin; refine Lib.wpList_append_run_sl _ rfl _ _ 24 rfl _ _ rfl rfl HR.out ?_))
  have q3 := (HB3.out.cell (p := ⟨cb, co + 1 * 3, none⟩) HCB.out).trans (HCS.out 1 (by decide)).1
  have q4 := (HB3.out.cell (p := ⟨cb, co + 1 * 3 + 1, none⟩) HCB.out).trans (HCS.out 1 (by decide)).2.1
  have q5 := (HB3.out.cell (p := ⟨cb, co + 1 * 3 + 2, none⟩) HCB.out).trans (HCS.out 1 (by decide)).2.2
  simp only [Nat.one_mul, Nat.add_assoc] at q3 q4 q5
  have hblt3 := HL3.out.lt
  rw [rounds_succ]
  go_wp2_with (first
    | (go_at_call 26; refine (call_13 (HL3.out.alloc _) kx1_wf kx1_kind kx1_ok kx1_ok2 kx1_kind2 kx1_tok 0 none 0 0 (by show kx2.err ≠ .other; rw [kx2_err]; simp)).mono ?_; intro e w4 h10; obtain ⟨tv, he1, hbt, vt2, ve2, g3, g4⟩ := TextDone.split h10; clear h10; subst he1; unfold gotV; obtain ⟨tp, tc, rfl⟩ := (hbt (fun _ => False) (fun _ a => a.elim)).isSlice; obtain ⟨v2, w5, hr, ho, hl', hb', hgr⟩ := round_step (s := .slice tp 2 tc) rfl (n := 0) (q := kx2.err.num) (p := (kx2.pos : Int)) (World.grownBy_alloc _ _ none) g4 HN.out (by omega) g3 hb hblt3; have HR2 := Lib.hid hr; have HN2 := Lib.hid ho; have HB4 := Lib.hid (HB3.out.trans hb'); have HGR := Lib.hid hgr; have HBT := Lib.hid hbt; clear hr ho hl' hb' hgr hbt g3 g4)
    | (at_builtin; refine Lib.wpList_append_run_sl _ rfl _ _ 24 rfl _ _ rfl rfl HR2.out ?_))
  rw [rounds_succ]
  go_wp2
  go_ret
  refine ⟨_, .slice tp 2 tc, rfl, ownsRow_base HN2.out (by omega), fun A hA => ?_, HB4.out⟩
  have h0 := HBT.out (fun k => A k ∨ v'.ownBlock = some k) (by
    rintro k (a | e)
    · have := hA k a; have := HB3.out.size; simp; omega
    · have := (HN.out.lt k e).2; simp; omega)
  exact (((h0.grown (World.grownBy_alloc w4 _ none) (by simp)).grown HGR.out (fun k e => .inr e))).other (fun k _ a => .inl a)
set_option maxHeartbeats 4000000 in
set_option maxRecDepth 100000 in
theorem equal_an {w : World} {A B : Nat → Prop} {v u : Value} (hv : BytesAt w A v [97, 10]) (hu : BytesAt w B u [97, 10]) :
    Calls Tryz.prog 24 #[v, u] w fun e w' => e = .returned (.bool true) ∧ ∃ n, w' = w.drewN n := by
  rcases hv with ⟨h0, -⟩ | ⟨b1, o1, c1, rfl, hc1, -, hx1⟩
  · cases h0
  rcases hu with ⟨h0, -⟩ | ⟨b2, o2, c2, rfl, hc2, -, hx2⟩
  · cases h0
  have x0 : w.cell? ⟨b1, o1, none⟩ = some (.int .u8 97) := hx1 0 (by decide)
  have x1 : w.cell? ⟨b1, o1 + 1, none⟩ = some (.int .u8 10) := hx1 1 (by decide)
  have y0 : w.cell? ⟨b2, o2, none⟩ = some (.int .u8 97) := hx2 0 (by decide)
  have y1 : w.cell? ⟨b2, o2 + 1, none⟩ = some (.int .u8 10) := hx2 1 (by decide)
  clear hx1 hx2
  go_enter Tryz.func24, Tryz.ntmps24
  go_wp2
  refine wp_loop_rounds 3 ?_
  rw [rounds_succ]
  go_wp2
  go_quiet (fail)
  go_wp2
  rw [rounds_succ]
  go_wp2
  go_quiet (fail)
  go_wp2
  rw [rounds_succ]
  go_wp2
  go_ret
  exact ⟨rfl, _, rfl⟩
end Go.Proofs.YtaecbclonmhbcaaGreatDoor

namespace Go.Proofs.YtaecbclonmhbcaaGreatDoor
open Go.RowKit
theorem known_bytes (w : World) (o2 : Obj) : BytesAt ((w.alloc (.cells #[.int .u8 32, .int .u8 49, .int .u8 50, .int .u8 32, .int .u8 34, .int .u8 97, .int .u8 92, .int .u8 110, .int .u8 34] 5 (9, 10))).alloc o2) (fun _ => False) (.slice (some ⟨w.heap.size, 0, none⟩) 9 9) knownD := by
  refine .inr ⟨w.heap.size, 0, 9, rfl, by decide, ⟨id, by simp; omega⟩, fun i hi => ?_⟩
  have hh : ((w.alloc (.cells #[.int .u8 32, .int .u8 49, .int .u8 50, .int .u8 32, .int .u8 34, .int .u8 97, .int .u8 92, .int .u8 110, .int .u8 34] 5 (9, 10))).alloc o2).heap[w.heap.size]? = _ := (heap_alloc_lt (by simp)).trans (heap_alloc_new w _)
  match i, hi with
  | 0, _ => exact cell_of_heap hh 0 rfl
  | 1, _ => exact cell_of_heap hh 1 rfl
  | 2, _ => exact cell_of_heap hh 2 rfl
  | 3, _ => exact cell_of_heap hh 3 rfl
  | 4, _ => exact cell_of_heap hh 4 rfl
  | 5, _ => exact cell_of_heap hh 5 rfl
  | 6, _ => exact cell_of_heap hh 6 rfl
  | 7, _ => exact cell_of_heap hh 7 rfl
  | 8, _ => exact cell_of_heap hh 8 rfl
theorem known_calls (w : World) (o1 : Obj) : CallsAt ((w.alloc o1).alloc (.cells #[.int .i64 24, .int .i64 0, .slice none 0 0, .int .i64 13, .int .i64 0, .slice none 0 0] 27)) (w.heap.size + 1) 0 [(24, 0), (13, 0)] := by
  have hh := heap_alloc2_new w o1 (.cells #[.int .i64 24, .int .i64 0, .slice none 0 0, .int .i64 13, .int .i64 0, .slice none 0 0] 27)
  intro k hk
  match k, hk with
  | 0, _ => exact ⟨cell_of_heap hh 0 rfl, cell_of_heap hh 1 rfl, cell_of_heap hh 2 rfl⟩
  | 1, _ => exact ⟨cell_of_heap hh 3 rfl, cell_of_heap hh 4 rfl, cell_of_heap hh 5 rfl⟩
theorem below_end {w w1 w2 : World} {a c o : Obj} {n : Nat} (h : Below ((w.alloc a).alloc c).heap.size ((w.alloc a).alloc c) w1) (h2 : w2 = (w1.alloc o).drewN n) : Below w.heap.size w w2 := by
  have hs : ((w.alloc a).alloc c).heap.size = w.heap.size + 2 := by simp
  have h1 : Below w.heap.size w ((w.alloc a).alloc c) := ((Below.refl w.heap.size w).alloc (Nat.le_refl _) a).alloc (by simp) c
  have h3 : Below w.heap.size w w1 := h1.trans (h.mono (by omega))
  have h4 := h3.alloc h3.size o
  rw [h2]
  exact ⟨h4.os, h4.tape, h4.output, h4.size, h4.block⟩
set_option maxHeartbeats 4000000 in
set_option maxRecDepth 100000 in
theorem known_any {w : World} {ae : Sur} {ao : Addr} (he : Env w ae ao) (_h2 : 1 < w.heap.size) :
    Calls Tryz.prog 12 #[] w fun e w' => e = .returned (.bool true) ∧ Below w.heap.size w w' := by
  have kc := fun (W : World) (C : Array Value) (n c : Nat) => Lib.run_convert_bytes_const (P := Tryz.prog) W 22 5 C n c Tryz.underlying22 Tryz.underlying5
  have kb : ∀ W : World, BytesAt (W.alloc (.cells #[.int .u8 97, .int .u8 10] 5 (2, 3))) (fun _ => False) (.slice (some ⟨W.heap.size, 0, none⟩) 2 2) [97, 10] := fun W =>
    .inr ⟨W.heap.size, 0, 2, rfl, by decide, ⟨id, by simp⟩, fun i hi => by
      match i, hi with
      | 0, _ => exact cell_of_heap (heap_alloc_new W _) 0 rfl
      | 1, _ => exact cell_of_heap (heap_alloc_new W _) 1 rfl⟩
  have KB := Lib.hid kb
  clear kb
  go_enter Tryz.func12, Tryz.ntmps12
  go_wp2_with (first
    | (go_at_call 13; refine (lex_known (known_bytes w _) (ae := ae) (ao := ao) ((he.grown (World.grownBy_alloc _ _ none) (by simp) (by simp)).grown (World.grownBy_alloc _ _ none) (by simp) (by simp)) (by simp) (w.heap.size + 1) 0 2 (known_calls w _) (by simp)).mono ?_; intro e w1 h0; obtain ⟨v', s, he1, hown, hbt, hbel⟩ := h0; subst he1; obtain ⟨g, cap, cur, hv, -⟩ : ∃ g cap cur, v' = .slice (some ⟨g, 0, none⟩) 2 cap ∧ w1.heap[g]? = some (.cells cur 30 (0, 0)) := (by rcases hown.2 with ⟨-, h⟩ | ⟨g, cap, cur, h1, -, h2, -⟩; exact absurd h (by decide); exact ⟨g, cap, cur, h1, h2⟩); subst hv; have y0 := hown.cellAt 0 (by decide); have y5 := hown.cellAt 5 (by decide); have y6 := hown.cellAt 6 (by decide); simp only [List.getElem?_cons_succ, List.getElem?_cons_zero] at y0 y5 y6; obtain ⟨sp, sc, rfl⟩ := (hbt (fun _ => False) (fun _ a => a.elim)).isSlice; have HBT := Lib.hid hbt; have HBL := Lib.hid hbel; clear hown hbt hbel)
    | (go_at_call 24; refine (equal_an ((HBT.out (fun _ => False) (fun _ a => a.elim)).grown (World.grownBy_alloc _ _ none) (by simp)) (KB.out _)).mono ?_; rintro e w2 ⟨rfl, n, hn⟩; have y6' : w2.cell? ⟨g, 6, none⟩ = some (.int .i64 0) := (by rw [hn, World.cell?_drewN]; exact (World.grownBy_alloc w1 _ none).cell y6 (by simp)); have HB2 : RowKit.Hid (Below w.heap.size w w2) := below_end HBL.out hn; clear hn))
  go_ret
  exact ⟨rfl, HB2.out⟩
end Go.Proofs.YtaecbclonmhbcaaGreatDoor

namespace Go.Proofs.YtaecbclonmhbcaaGreatDoor
open Go.RowKit
theorem env_below {w w' : World} {ae : Sur} {ao : Addr} {B : Nat} (h : Env w ae ao) (hb : Below B w w') (hB : 1 < B) : Env w' ae ao :=
  ⟨(hb.cell (p := ⟨1, 0, none⟩) hB).trans h.eof, (hb.cell (p := ⟨0, 0, none⟩) (Nat.lt_trans Nat.zero_lt_one hB)).trans h.other, h.ne⟩
end Go.Proofs.YtaecbclonmhbcaaGreatDoor

namespace Go.Proofs.YtaecbclonmhbcaaGreatDoor
open Go.RowKit
def stepFns : List Nat := [168, 184, 186, 187, 188, 189, 190, 191, 192, 193, 210, 211, 212, 213, 214, 215, 216, 217, 218, 228, 230, 231, 232, 233, 234, 235, 242, 243, 244, 248, 250]
structure ScAt (w : World) (s st n : Nat) (et : Bool) (vp er : Value) (bn : Int) : Prop where
  heap : w.heap[s]? = some (.cells #[.func (.func st) #[] #[], .bool et, vp, er, .int .i64 bn] 183 (0, 0))
  row : ∃ xs : List Int, w.ownsRow (s + 1) 3 1 vp n (xs.map (.int .i64))
  err : er = .nilIface ∨ ∃ v, er = .iface 194 v
  mem : st ∈ stepFns
section
variable {w w' : World} {s st n : Nat} {et : Bool} {vp er : Value} {bn : Int}
theorem ScAt.c0 (h : ScAt w s st n et vp er bn) : w.cell? ⟨s, 0, none⟩ = some (.func (.func st) #[] #[]) := cell_of_heap h.heap 0 rfl
theorem ScAt.c1 (h : ScAt w s st n et vp er bn) : w.cell? ⟨s, 1, none⟩ = some (.bool et) := cell_of_heap h.heap 1 rfl
theorem ScAt.c2 (h : ScAt w s st n et vp er bn) : w.cell? ⟨s, 2, none⟩ = some vp := cell_of_heap h.heap 2 rfl
theorem ScAt.c3 (h : ScAt w s st n et vp er bn) : w.cell? ⟨s, 3, none⟩ = some er := cell_of_heap h.heap 3 rfl
theorem ScAt.c4 (h : ScAt w s st n et vp er bn) : w.cell? ⟨s, 4, none⟩ = some (.int .i64 bn) := cell_of_heap h.heap 4 rfl
theorem ScAt.free (h : ScAt w s st n et vp er bn) (i : Nat) : w.frozen? ⟨s, i, none⟩ = false := free_of_heap h.heap i
theorem ScAt.lt (h : ScAt w s st n et vp er bn) : s < w.heap.size := lt_heap h.heap
theorem ScAt.form (h : ScAt w s st n et vp er bn) : ∃ p c, vp = .slice p n c := by
  obtain ⟨xs, -, h2⟩ := h.row
  rcases h2 with ⟨rfl, rfl⟩ | ⟨g, c, cur, rfl, -⟩
  · exact ⟨none, 0, rfl⟩
  · exact ⟨_, c, rfl⟩
theorem ownsRow_new {B : Nat} {v : Value} {xs : List Value} (h : w.ownsRow B 3 1 v n xs) (k : Below w.heap.size w w') : w'.ownsRow B 3 1 v n xs :=
  h.kept (row := none) ⟨k.os, k.tape, k.output, k.size, fun j hj _ => k.block j hj⟩ (by cases v.ownBlock with | none => exact .inl rfl | some j => exact .inr (by simp))
theorem ScAt.setStep (h : ScAt w s st n et vp er bn) (st' : Nat) (hs : st' ∈ stepFns) : ScAt (w.setCell ⟨s, 0, none⟩ (.func (.func st') #[] #[])) s st' n et vp er bn :=
  ⟨heap_setCell h.heap 0 _, by obtain ⟨xs, hx⟩ := h.row; exact ⟨xs, ownsRow_setCell_below hx (Nat.lt_succ_self _) _⟩, h.err, hs⟩
theorem ScAt.setTop (h : ScAt w s st n et vp er bn) (b : Bool) : ScAt (w.setCell ⟨s, 1, none⟩ (.bool b)) s st n b vp er bn :=
  ⟨heap_setCell h.heap 1 _, by obtain ⟨xs, hx⟩ := h.row; exact ⟨xs, ownsRow_setCell_below hx (Nat.lt_succ_self _) _⟩, h.err, h.mem⟩
theorem ScAt.setRow (h : ScAt w s st n et vp er bn) (v' : Value) (n' : Nat) (hr : ∃ xs : List Int, w.ownsRow (s + 1) 3 1 v' n' (xs.map (.int .i64))) : ScAt (w.setCell ⟨s, 2, none⟩ v') s st n' et v' er bn :=
  ⟨heap_setCell h.heap 2 _, by obtain ⟨xs, hx⟩ := hr; exact ⟨xs, ownsRow_setCell_below hx (Nat.lt_succ_self _) _⟩, h.err, h.mem⟩
theorem ScAt.setErr (h : ScAt w s st n et vp er bn) (e : Value) (he : e = .nilIface ∨ ∃ v, e = .iface 194 v) : ScAt (w.setCell ⟨s, 3, none⟩ e) s st n et vp e bn :=
  ⟨heap_setCell h.heap 3 _, by obtain ⟨xs, hx⟩ := h.row; exact ⟨xs, ownsRow_setCell_below hx (Nat.lt_succ_self _) _⟩, he, h.mem⟩
theorem ScAt.setCount (h : ScAt w s st n et vp er bn) (b : Int) : ScAt (w.setCell ⟨s, 4, none⟩ (.int .i64 b)) s st n et vp er b :=
  ⟨heap_setCell h.heap 4 _, by obtain ⟨xs, hx⟩ := h.row; exact ⟨xs, ownsRow_setCell_below hx (Nat.lt_succ_self _) _⟩, h.err, h.mem⟩
theorem ScAt.new (h : ScAt w s st n et vp er bn) (k : Below w.heap.size w w') : ScAt w' s st n et vp er bn :=
  ⟨(k.block _ h.lt).trans h.heap, by obtain ⟨xs, hx⟩ := h.row; exact ⟨xs, ownsRow_new hx k⟩, h.err, h.mem⟩
end
theorem below_setCell {B s i : Nat} {w w' : World} {v : Value} (h : Below B w w') (hs : B ≤ s) : Below B w (w'.setCell ⟨s, i, none⟩ v) :=
  ⟨h.os, h.tape, h.output, by simpa using h.size, fun k hk => (heap_setCell_other _ _ (by omega)).trans (h.block k hk)⟩
theorem below_less {B C : Nat} {w w' : World} (h : Below B w w') (hc : C ≤ B) : Below C w w' := ⟨h.os, h.tape, h.output, h.size, fun k hk => h.block k (by omega)⟩
theorem below_alloc (w : World) (o : Obj) : Below w.heap.size w (w.alloc o) := ⟨rfl, rfl, rfl, by simp, fun k hk => heap_alloc_lt hk⟩
def ScPost (w : World) (s n : Nat) (e : Ending) (w' : World) : Prop :=
  ∃ (r : Int) (st' n' : Nat) (et' : Bool) (vp' er' : Value) (bn' : Int), e = .returned (.int .i64 r) ∧ ScAt w' s st' n' et' vp' er' bn' ∧ n' ≤ n + 1 ∧ (st' = 184 → 0 < n') ∧ Below s w w'
def ScB (e : Ending) : Prop := ∃ r, e = .returned (.bool r)
set_option maxHeartbeats 1000000 in
theorem isSpace_any (c : Int) (w : World) : Calls Tryz.prog 183 #[.int .u8 c] w fun e w' => ScB e ∧ w = w' := by
  go_enter Tryz.func183, Tryz.ntmps183
  go_wp2
  all_goals
    go_ret
    exact ⟨⟨_, rfl⟩, rfl⟩
theorem byte_text (c : Int) : ∃ t : ByteArray, t.size ≤ 4 ∧ ∀ W, (convert 5 9 (.int .u8 c)).run Tryz.prog W = .ok (.string t) W := by
  refine ⟨Utf8.encode c, encode_size_le c, fun W => ?_⟩
  simp [convert, run_underlying Tryz.underlying5, run_underlying Tryz.underlying9, Conv.intToString]
set_option maxHeartbeats 2000000 in
theorem quoteChar_any (c : Int) {w : World} (hT : Tabs w) : Calls Tryz.prog 219 #[.int .u8 c] w fun e w' => (∃ t : ByteArray, e = .returned (.string t) ∧ t.size ≤ 100) ∧ Below w.heap.size w w' := by
  obtain ⟨t, ht, hcv⟩ := byte_text c
  have hsz : (strOfNums (Lib.quoteZ Lib.goPrintTabs t)).size ≤ 10 * t.size + 2 := by rw [strOfNums_size]; exact Lib.quoteZ_length_le _ t
  have hs2 : 2 ≤ (strOfNums (Lib.quoteZ Lib.goPrintTabs t)).size := by rw [strOfNums_size]; simp [Lib.quoteZ]
  have HT := Lib.hid hT
  clear hT
  generalize hq : strOfNums (Lib.quoteZ Lib.goPrintTabs t) = q at hsz hs2
  have HQ := Lib.hid hq
  have h1 : (1 : Int) ≤ (q.size : Int) - 1 := by omega
  go_enter Tryz.func219, Tryz.ntmps219
  go_wp2_with (go_at_call 236; refine (Any.strconv_Quote sh_lays177 (by kernel_rfl) Lib.goPrintTabs t _ (by omega) (printTabs_below HT.out.pr (Below.refl _ _)) (Utf8Tabs_below HT.out.u8 (Below.refl _ _))).mono ?_; rintro e w1 ⟨rfl, hb⟩; rw [HQ.out]; have HB := Lib.hid hb; clear hb)
  · go_ret
    exact ⟨⟨_, rfl, by decide⟩, Below.refl _ _⟩
  · go_ret
    exact ⟨⟨_, rfl, by decide⟩, Below.refl _ _⟩
  · go_ret
    refine ⟨⟨_, rfl, ?_⟩, HB.out⟩
    rw [ByteArray.size_append, ByteArray.size_append, ByteArray.size_extract]
    show 1 + _ + 1 ≤ 100
    omega
theorem store_fn (f : Nat) (a : Addr) (W : World) : (store a (.func (.func f) #[] #[])).run Tryz.prog W = stored Tryz.prog W a (.func (.func f) #[] #[]) .plain := run_store Tryz.prog W a _ .plain rfl
theorem Gr.less {s : Nat} {w w' : World} (h : Gr s w) (k : Below s w w') : Gr s w' := by
  obtain ⟨w0, h1, h2, h3⟩ := h
  exact ⟨w0, h1, h2, h3.trans (below_less k h2)⟩
set_option maxHeartbeats 4000000 in
set_option maxRecDepth 100000 in
theorem scErr_any (c : Int) (t : ByteArray) (ht : t.size ≤ 1000) {w : World} {s st n : Nat} {et : Bool} {vp er : Value} {bn : Int} (h : ScAt w s st n et vp er bn) (hG : Gr s w) :
    Calls Tryz.prog 194 #[.pointer (some ⟨s, 0, none⟩), .int .u8 c, .string t] w (fun e w' => ∃ er', e = .returned (.int .i64 11) ∧ ScAt w' s 218 n et vp er' bn ∧ Below s w w') := by
  have hb1 : Below s w (w.setCell ⟨s, 0, none⟩ (.func (.func 218) #[] #[])) := below_setCell (Below.refl s w) (Nat.le_refl s)
  have H := Lib.hid (h.setStep 218 (by decide))
  have HT := Lib.hid (hG.less hb1).tabs
  have HB1 := Lib.hid hb1
  have f0 := h.free 0
  have c0 := h.c0
  have hlt := h.lt
  have hsf := store_fn
  clear h hG hb1
  go_enter Tryz.func194, Tryz.ntmps194
  go_wp2
  obtain ⟨w1, hw1⟩ : ∃ w1, w1 = w.setCell ⟨s, 0, none⟩ (.func (.func 218) #[] #[]) := ⟨_, rfl⟩
  rw [← hw1] at H HT HB1 ⊢
  clear hw1 hsf f0 c0
  have f3 := H.out.free 3
  have c3 := H.out.c3
  have c4 := H.out.c4
  go_region_with (go_at_call 219; refine (quoteChar_any c (HT.out.below (below_drewN _ _))).mono ?_; rintro e w2 ⟨⟨q, rfl, hq⟩, hb2⟩; have H2 := Lib.hid ((H.out.new (below_drewN _ _)).new hb2); have HB2 := Lib.hid hb2; have g4 := H2.out.c4; have g3 := H2.out.c3; have z3 := H2.out.free 3; have hlt2 := H2.out.lt; clear hb2)
  all_goals
    go_wp2
    go_ret
    have hb3 := HB1.out.trans (below_less ((below_drewN w1 _).trans (below_less HB2.out (by simp))) (Nat.le_of_lt H.out.lt))
    exact ⟨_, rfl, (H2.out.setErr _ (.inr ⟨_, rfl⟩)).new (below_alloc _ _), (below_setCell hb3 (Nat.le_refl s)).trans (below_less (below_alloc _ _) (by simp; omega))⟩
end Go.Proofs.YtaecbclonmhbcaaGreatDoor

namespace Go.Proofs.YtaecbclonmhbcaaGreatDoor
open Go.RowKit
def Sur.both (ae : Sur) (v : Value) : Sur := ⟨ae.addr, fun j => ae.held j ∨ v.ownBlock = some j⟩
def ErrRow (w : World) (b : Nat) (vm : Value) (offs : List Nat) : Prop :=
  ∃ ks : List Nat, w.ownsRow (b + 1) 60 1 vm offs.length (ks.map fun k => .pointer (some ⟨k, 0, none⟩)) ∧
    ∀ j, j < offs.length → ks.getD j 0 ≠ b ∧ ∃ s t : ByteArray, w.heap[ks.getD j 0]? = some (.cells #[.string s, .int .i64 (offs.getD j 0 : Nat), .string t] 66 (0, 0))
structure MxAt (w : World) (b : Nat) (ae : Sur) (ao : Addr) (x : Lx) (vd vt ve vm : Value) : Prop where
  lx : LexAt w b (ae.both vm) ao x vd vt ve vm
  row : ErrRow w b vm x.errs
structure KeptM (b : Nat) (vm vm' : Value) (w w' : World) : Prop where
  os : w'.os = w.os
  tape : w'.tape = w.tape
  output : w'.output = w.output
  size : w.heap.size ≤ w'.heap.size
  block : ∀ k, k < w.heap.size → k ≠ b → vm.ownBlock ≠ some k → w'.heap[k]? = w.heap[k]?
  new : ∀ k, vm'.ownBlock = some k → k < w.heap.size → vm.ownBlock = some k
section
variable {b : Nat} {ae : Sur} {ao : Addr} {x x' : Lx} {vd vt ve vm vm' vm'' vt' ve' : Value} {u w w' : World}
theorem KeptM.refl (b : Nat) (vm : Value) (w : World) : KeptM b vm vm w w := ⟨rfl, rfl, rfl, Nat.le_refl _, fun _ _ _ _ => rfl, fun _ h _ => h⟩
theorem KeptM.of (k : Kept b w w') (vm : Value) : KeptM b vm vm w w' := ⟨k.os, k.tape, k.output, k.size, fun j hj hn _ => k.block j hj hn, fun _ h _ => h⟩
theorem KeptM.trans (h : KeptM b vm vm' u w) (k : KeptM b vm' vm'' w w') : KeptM b vm vm'' u w' :=
  ⟨k.os.trans h.os, k.tape.trans h.tape, k.output.trans h.output, Nat.le_trans h.size k.size,
    fun j hj hn hm => (k.block j (Nat.lt_of_lt_of_le hj h.size) hn (fun e => hm (h.new j e hj))).trans (h.block j hj hn hm),
    fun j e hj => h.new j (k.new j e (Nat.lt_of_lt_of_le hj h.size)) hj⟩
theorem KeptM.below (h : KeptM b vm vm' u w) (k : Below w.heap.size w w') : KeptM b vm vm' u w' := h.trans (.of (kept_below k b) vm')
theorem ErrRow.kept {offs : List Nat} (h : ErrRow w b vm offs) (k : Kept b w w') : ErrRow w' b vm offs := by
  obtain ⟨ks, hr, he⟩ := h
  refine ⟨ks, hr.kept (row := some b) ⟨k.os, k.tape, k.output, k.size, fun j hj hn => k.block j hj (fun e => hn (by rw [e]))⟩ ?_, fun j hj => ?_⟩
  · cases hv : vm.ownBlock with
    | none => exact .inl rfl
    | some g => exact .inr (fun e => by have := (hr.lt g hv).1; have := Option.some.inj e; omega)
  · obtain ⟨hne, s, t, hh⟩ := he j hj
    exact ⟨hne, s, t, k.heap hh hne⟩
theorem MxAt.kept (h : MxAt w b ae ao x vd vt ve vm) (k : Kept b w w') (g : LexAt w' b (ae.both vm) ao x' vd vt' ve' vm) (he : x'.errs = x.errs) : MxAt w' b ae ao x' vd vt' ve' vm :=
  ⟨g, by rw [he]; exact h.row.kept k⟩
theorem MxAt.new (h : MxAt w b ae ao x vd vt ve vm) (k : Below w.heap.size w w') : MxAt w' b ae ao x vd vt ve vm := h.kept (kept_below k b) (h.lx.belowNew k) rfl
theorem MxAt.drewN (h : MxAt w b ae ao x vd vt ve vm) (n : Nat) : MxAt (w.drewN n) b ae ao x vd vt ve vm := h.new (below_drewN w n)
theorem MxAt.alloc (h : MxAt w b ae ao x vd vt ve vm) (o : Obj) : MxAt (w.alloc o) b ae ao x vd vt ve vm := h.new (below_alloc w o)
theorem MxAt.form (h : MxAt w b ae ao x vd vt ve vm) : ∃ p c, vm = .slice p x.errs.length c := by
  obtain ⟨ks, hr, -⟩ := h.row
  rcases hr.2 with ⟨rfl, h0⟩ | ⟨g, c, cur, rfl, -⟩
  · rw [h0]; exact ⟨none, 0, rfl⟩
  · exact ⟨_, c, rfl⟩
theorem MxAt.last (h : MxAt w b ae ao x vd vt ve vm) (hn : 0 < x.errs.length) : ∃ (g c k : Nat) (s t : ByteArray), vm = .slice (some ⟨g, 0, none⟩) x.errs.length c ∧
    w.cell? ⟨g, x.errs.length - 1, none⟩ = some (.pointer (some ⟨k, 0, none⟩)) ∧ w.heap[k]? = some (.cells #[.string s, .int .i64 (x.errs.getD (x.errs.length - 1) 0 : Nat), .string t] 66 (0, 0)) := by
  obtain ⟨ks, hr, he⟩ := h.row
  obtain ⟨-, s, t, hh⟩ := he (x.errs.length - 1) (by omega)
  obtain ⟨g, c, hv⟩ : ∃ g c, vm = .slice (some ⟨g, 0, none⟩) x.errs.length c := by
    rcases hr.2 with ⟨-, h0⟩ | ⟨g, c, cur, hv, -⟩
    · omega
    · exact ⟨g, c, hv⟩
  subst hv
  have hl := hr.1
  simp only [List.length_map, Nat.mul_one] at hl
  refine ⟨g, c, ks.getD (x.errs.length - 1) 0, s, t, rfl, ?_, hh⟩
  rw [hr.cellAt (x.errs.length - 1) (by omega)]
  have : x.errs.length - 1 < ks.length := by omega
  simp [List.getD, this]
end
theorem info60 : (Tryz.prog.info? 60).map (fun i => (i.zero, i.size, i.bytes)) = some (some (.pointer none), 1, 8) := by kernel_rfl
theorem append_err {w : World} {base : Nat} {v : Value} {n : Nat} {xs : List Value} (hown : w.ownsRow base 60 1 v n xs) (ad : Addr) (c : Nat) (u : Value) (hu : w.cell? ad = some u) (h1 : u.oneCell' = true) (hn : n ≤ 1000000) (hbase : base ≤ w.heap.size) :
    ∃ v' w', (Builtin.append_ #[67, 67] 67 #[v, .slice (some ad) 1 c]).run Tryz.prog w = .ok v' w' ∧ w'.ownsRow base 60 1 v' (n + 1) (xs ++ [u]) ∧ w.grownBy w' v.ownBlock ∧
      (v'.ownBlock = v.ownBlock ∨ ∃ k, w.heap.size ≤ k ∧ v'.ownBlock = some k) := by
  obtain ⟨i, hi, hz, hz1, hz2⟩ := info_parts info60
  have hnews : ∀ j z, [u][j]? = some z → w.cell? (ad.add j) = some z := by
    intro j z hj
    cases j with
    | zero => simp only [List.getElem?_cons_zero, Option.some.injEq] at hj; subst hj; rw [show ad.add 0 = ad from by unfold Addr.add; split <;> simp_all]; exact hu
    | succ j => simp at hj
  have h1' : ∀ z ∈ [u], z.oneCell' = true := by intro z hz'; simp only [List.mem_singleton] at hz'; subst hz'; exact h1
  obtain ⟨v', w', hr, h2, h3, h4⟩ := run_append_own (P := Tryz.prog) w base 67 67 60 i _ 1 8 Tryz.underlying67 hi hz hz1 hz2 rfl (by decide) v n xs hown ad 1 c [u] rfl hnews h1' (by unfold maxLen; omega) (by omega) hbase
  refine ⟨v', w', hr, h2, h3, ?_⟩
  rcases hown.2 with ⟨rfl, rfl⟩ | ⟨g, cap, cur, rfl, hbg, hg, hnc, hcm, hcs, htake⟩
  · have hr' := run_append_nil (P := Tryz.prog) w 67 67 60 i _ Tryz.underlying67 hi hz ad 1 c [u] (by rw [hz1]; rfl) hnews (by omega) (by omega) (by omega)
    rw [hr] at hr'
    simp only [Result.ok.injEq] at hr'
    rw [hr'.1]
    exact .inr ⟨_, Nat.le_refl _, rfl⟩
  · by_cases hroom : n + 1 ≤ cap
    · obtain ⟨w2, hr', -⟩ := run_append_fits (P := Tryz.prog) w base 67 67 60 i 1 Tryz.underlying67 hi hz1 g n cap xs hown ad 1 c [u] rfl hnews h1' hroom
      rw [hr] at hr'
      simp only [Result.ok.injEq] at hr'
      rw [hr'.1]
      exact .inl rfl
    · have hr' := run_append_grow (P := Tryz.prog) w 67 67 60 i _ Tryz.underlying67 hi hz ⟨g, 0, none⟩ n cap xs (by rw [hown.1, hz1]) (hown.cells (g := g) rfl) ad 1 c [u] (by rw [hz1]; rfl) hnews (by omega) (by omega) (growslice_fits (by omega) (by rw [hz2]; omega))
      rw [hr] at hr'
      simp only [Result.ok.injEq] at hr'
      rw [hr'.1]
      exact .inr ⟨_, Nat.le_refl _, rfl⟩
section
variable {b : Nat} {ae : Sur} {ao : Addr} {x : Lx} {vd vt ve vm : Value} {w : World}
theorem errs_push (h : MxAt w b ae ao x vd vt ve vm) (hn : x.errs.length ≤ 1000000) {kE o : Nat} {s t : ByteArray} (hE : w.heap[kE]? = some (.cells #[.string s, .int .i64 o, .string t] 66 (0, 0))) (hb : kE ≠ b) :
    ∃ v' w', (Builtin.append_ #[67, 67] 67 #[vm, .slice (some ⟨w.heap.size, 0, none⟩) 1 1]).run Tryz.prog (w.alloc (.cells #[.pointer (some ⟨kE, 0, none⟩)] 60)) = .ok v' w' ∧
      (∃ p c, v' = .slice p (x.errs.length + 1) c) ∧ w'.cell? ⟨b, 12, none⟩ = some vm ∧ w'.frozen? ⟨b, 12, none⟩ = false ∧
      MxAt (w'.setCell ⟨b, 12, none⟩ v') b ae ao { x with errs := x.errs ++ [o] } vd vt ve v' ∧ KeptM b vm v' w (w'.setCell ⟨b, 12, none⟩ v') := by
  obtain ⟨ks, hr, he⟩ := h.row
  have hl := hr.1
  simp only [List.length_map, Nat.mul_one] at hl
  have ha := hr.alloc (.cells #[.pointer (some ⟨kE, 0, none⟩)] 60)
  have hbl := h.lx.lt
  have hb2 := h.lx.b2
  obtain ⟨v', w', hrun, h2, h3, h4⟩ := append_err ha ⟨w.heap.size, 0, none⟩ 1 (.pointer (some ⟨kE, 0, none⟩)) (cell_of_heap (heap_alloc_new _ _) 0 rfl) rfl hn (by simp; omega)
  have hrow : ∀ k, vm.ownBlock = some k → b < k ∧ k < w.heap.size := fun k e => ⟨by have := (hr.lt k e).1; omega, (hr.lt k e).2⟩
  have hG := h.lx.alloc (.cells #[.pointer (some ⟨kE, 0, none⟩)] 60)
  have hmv := hG.move (ae' := ae.both v') h3 (fun k e => ⟨.inr e, by have := hrow k e; omega, by have := hrow k e; omega⟩) rfl
    (by
      rintro k hk (e | e | e)
      · exact .inl e
      · exact .inr (.inl e)
      · rcases h4 with e' | ⟨m, hm, e'⟩
        · exact .inr (.inr (by rw [← e']; exact e))
        · have := Option.some.inj (e.symm.trans e'); omega)
    (by
      rintro k (e | e)
      · have h5 := h.lx.held k (.inl e); have h6 := h3.size; simp at h6; omega
      · exact (h2.lt k e).2)
  have hform : ∃ p c, v' = .slice p (x.errs.length + 1) c := by
    rcases h2.2 with ⟨-, h0⟩ | ⟨g, cp, cur, rfl, -⟩
    · omega
    · exact ⟨_, cp, rfl⟩
  have hs := hmv.heap
  have hblk : ∀ k o', w.heap[k]? = some o' → vm.ownBlock ≠ some k → w'.heap[k]? = some o' := fun k o' hk hne => by
    rw [h3.block k (by have := lt_heap hk; simp; omega) (fun e => hne e.symm)]
    rw [heap_alloc_lt (lt_heap hk)]; exact hk
  have h66 : ∀ k s t (o : Int), w.heap[k]? = some (.cells #[.string s, .int .i64 o, .string t] 66 (0, 0)) → vm.ownBlock ≠ some k := by
    intro k s t o hk e
    rcases hr.2 with ⟨rfl, -⟩ | ⟨g, cp, cur, rfl, -, hg, -⟩
    · cases e
    · obtain rfl := Option.some.inj e
      rw [hk] at hg
      simp at hg
  refine ⟨v', w', hrun, hform, cell_of_heap hs 12 rfl, free_of_heap hs 12, ⟨?_, ks ++ [kE], ?_, ?_⟩, ?_⟩
  · have hk := (Kept.refl b w').setCell 12 v'
    exact hmv.into hk rfl (by rw [heap_setCell hs 12 v']; rfl) (hmv.tok.kept hk) (hmv.err.kept hk)
  · rw [List.length_append, List.map_append]
    exact ownsRow_setCell_below h2 (Nat.lt_succ_self b) _
  · intro j hj
    have hother : ∀ k o', k ≠ b → w'.heap[k]? = some o' → (w'.setCell ⟨b, 12, none⟩ v').heap[k]? = some o' := fun k o' hk hh => (heap_setCell_other _ _ hk).trans hh
    rw [List.length_append] at hj
    by_cases hj2 : j < x.errs.length
    · obtain ⟨hne, s', t', hh⟩ := he j hj2
      have e1 : (ks ++ [kE]).getD j 0 = ks.getD j 0 := by simp [List.getD, List.getElem?_append, show j < ks.length by omega]
      have e2 : (x.errs ++ [o]).getD j 0 = x.errs.getD j 0 := by simp [List.getD, List.getElem?_append, hj2]
      show (ks ++ [kE]).getD j 0 ≠ b ∧ _
      rw [e1]
      refine ⟨hne, s', t', ?_⟩
      show _ = some (Obj.cells #[_, .int .i64 ((x.errs ++ [o]).getD j 0 : Nat), _] 66 (0, 0))
      rw [e2]
      exact hother _ _ hne (hblk _ _ hh (h66 _ _ _ _ hh))
    · have hj3 : j = x.errs.length := by simp at hj; omega
      subst hj3
      have e1 : (ks ++ [kE]).getD x.errs.length 0 = kE := by rw [← hl]; simp [List.getD]
      have e2 : (x.errs ++ [o]).getD x.errs.length 0 = o := by simp [List.getD]
      show (ks ++ [kE]).getD x.errs.length 0 ≠ b ∧ _
      rw [e1]
      refine ⟨hb, s, t, ?_⟩
      show _ = some (Obj.cells #[_, .int .i64 ((x.errs ++ [o]).getD x.errs.length 0 : Nat), _] 66 (0, 0))
      rw [e2]
      exact hother _ _ hb (hblk _ _ hE (h66 _ _ _ _ hE))
  · refine ⟨h3.os, h3.tape, h3.output, by have := h3.size; simp at this; simp; omega, fun k hk hne hnv => ?_, fun k e hk => ?_⟩
    · rw [heap_setCell_other _ _ hne, h3.block k (by simp; omega) (fun e => hnv e.symm), heap_alloc_lt hk]
    · rcases h4 with e' | ⟨m, hm, e'⟩
      · rw [← e']; exact e
      · have := Option.some.inj (e.symm.trans e'); simp at hm; omega
def MDone (w : World) (b : Nat) (ae : Sur) (ao : Addr) (x' : Lx) (vd vm : Value) (w' : World) : Prop :=
  ∃ vt ve vm', MxAt w' b ae ao x' vd vt ve vm' ∧ KeptM b vm vm' w w'
set_option maxHeartbeats 4000000 in
set_option maxRecDepth 100000 in
theorem addNf_any (h : MxAt w b ae ao x vd vt ve vm) (hn : x.errs.length ≤ 1000000) {kE o : Nat} {s t : ByteArray} (hE : w.heap[kE]? = some (.cells #[.string s, .int .i64 o, .string t] 66 (0, 0))) (hb : kE ≠ b) (hoff : ¬ (ae.both vm).off b kE) :
    Calls Tryz.prog 108 #[.pointer (some ⟨b, 0, none⟩), .pointer (some ⟨kE, 0, none⟩)] w fun e w' => e = .returned (.tuple #[]) ∧ MDone w b ae ao (x.addNf o) vd vm w' := by
  rcases Bool.eq_false_or_eq_true x.multi with hm | hm
  case inr =>
    rw [show x.addNf o = { x with err := .lex o } from by unfold Lx.addNf; rw [if_neg (by simp [hm])]]
    refine (addNonfatal_one h.lx hm _).mono ?_
    rintro e w' ⟨he, rfl⟩
    have hk := (Kept.refl b w).setCell 11 (.iface 60 (.pointer (some ⟨kE, 0, none⟩)))
    refine ⟨he, vt, _, vm, h.kept hk (h.lx.setErr _ (.lex o) ⟨kE, s, t, rfl, hoff, ?_⟩) rfl, .of hk vm⟩
    rw [heap_setCell_other _ _ hb]; exact hE
  case inl =>
    have e1 := cell_of_heap hE 1 rfl
    have c10 := h.lx.c10
    rw [hm] at c10
    have c12 := h.lx.c12
    have H := Lib.hid h
    have HE := Lib.hid hE
    by_cases h0 : x.errs.length = 0
    · rw [show x.addNf o = { x with errs := x.errs ++ [o] } from by unfold Lx.addNf; rw [if_pos hm, if_neg (fun a => a.1 h0)]]
      obtain ⟨p0, c0, rfl⟩ := h.form
      have hd : decide ((x.errs.length : Int) ≠ 0) = false := decide_eq_false (by omega)
      have hd2 : ((x.errs.length : Int) != 0) = false := by simp [h0]
      clear h hE h0
      go_enter Tryz.func108, Tryz.ntmps108
      go_wp2
      go_quiet (fail)
      clear e1 c10 c12
      obtain ⟨v', w2, hrun, ⟨p, c, hv⟩, d12, z12, hmx, hkm⟩ := errs_push (H.out.drewN nq) hn HE.out hb
      subst hv
      have c12 := (H.out.drewN nq).lx.c12
      have HR := Lib.hid hrun
      have HM := Lib.hid hmx
      have HK := Lib.hid hkm
      clear hrun hmx hkm
      go_wp2_with (at_builtin; refine Lib.wpList_append_run_sl _ rfl _ _ 67 rfl _ _ rfl rfl HR.out ?_)
      (try simp only [Exit.inBlock, Exit.then])
      exact bodyPost_ret (results_none rfl _ _ _) rfl ⟨rfl, vt, _, _, HM.out, ((KeptM.refl b _ w).below (below_drewN w nq)).trans HK.out⟩
    · obtain ⟨g, c1, k1, s1, t1, rfl, hc1, hh1⟩ := h.last (by omega)
      have k1c := cell_of_heap hh1 1 rfl
      have hd : decide ((x.errs.length : Int) ≠ 0) = true := decide_eq_true (by omega)
      have hd2 : ((x.errs.length : Int) != 0) = true := by simp [h0]
      have hw : wrap64 ((x.errs.length : Int) - 1) = (x.errs.length : Int) - 1 := by unfold wrap64; omega
      have htn : ((x.errs.length : Int) - 1).toNat = x.errs.length - 1 := by omega
      have hge : (0 : Int) ≤ (x.errs.length : Int) - 1 := by omega
      have hlt1 : (x.errs.length : Int) - 1 < (x.errs.length : Int) := by omega
      by_cases ho : x.errs.getD (x.errs.length - 1) 0 = o
      · rw [show x.addNf o = x from by unfold Lx.addNf; rw [if_pos hm, if_pos ⟨h0, ho⟩]]
        subst ho
        have hd3 : (((x.errs.getD (x.errs.length - 1) 0 : Nat) : Int) == ((x.errs.getD (x.errs.length - 1) 0 : Nat) : Int)) = true := by simp
        clear h hE h0 hh1
        go_enter Tryz.func108, Tryz.ntmps108
        go_wp2
        go_quiet (fail)
        go_wp2
        (try simp only [Exit.inBlock, Exit.then])
        exact bodyPost_ret (results_none rfl _ _ _) rfl ⟨rfl, vt, _, _, H.out.drewN nq, (KeptM.refl b _ w).below (below_drewN w nq)⟩
      · rw [show x.addNf o = { x with errs := x.errs ++ [o] } from by unfold Lx.addNf; rw [if_pos hm, if_neg (fun a => ho a.2)]]
        obtain ⟨lo, hlo⟩ : ∃ lo, lo = x.errs.getD (x.errs.length - 1) 0 := ⟨_, rfl⟩
        rw [← hlo] at k1c ho
        have hd3 : ((lo : Int) == (o : Int)) = false := beq_eq_false_iff_ne.2 (by omega)
        clear h hE h0 hh1 hlo ho
        go_enter Tryz.func108, Tryz.ntmps108
        go_wp2
        go_quiet (fail)
        clear e1 c10 c12 hc1 k1c
        obtain ⟨v', w2, hrun, ⟨p, c, hv⟩, d12, z12, hmx, hkm⟩ := errs_push (H.out.drewN nq) hn HE.out hb
        subst hv
        have c12 := (H.out.drewN nq).lx.c12
        have HR := Lib.hid hrun
        have HM := Lib.hid hmx
        have HK := Lib.hid hkm
        clear hrun hmx hkm
        go_wp2_with (at_builtin; refine Lib.wpList_append_run_sl _ rfl _ _ 67 rfl _ _ rfl rfl HR.out ?_)
        (try simp only [Exit.inBlock, Exit.then])
        exact bodyPost_ret (results_none rfl _ _ _) rfl ⟨rfl, vt, _, _, HM.out, ((KeptM.refl b _ w).below (below_drewN w nq)).trans HK.out⟩
end
end Go.Proofs.YtaecbclonmhbcaaGreatDoor

namespace Go.Proofs.YtaecbclonmhbcaaGreatDoor
open Go.RowKit
structure Fix where
  b : Nat
  ae : Sur
  ao : Addr
  l : List Int
  mu : Bool
  vd : Value
  g : Prop
structure NamedAt (F : Fix) (w : World) : Prop where
  lo : F.ao.block < F.b
  le : F.ae.addr.block < F.b
  ho : ∃ ca ta, w.heap[F.ao.block]? = some (.cells ca ta (0, 0))
  he : ∃ cb tb, w.heap[F.ae.addr.block]? = some (.cells cb tb (0, 0))
  text : ∃ t : ByteArray, t.size ≤ 1000 ∧ w.cell? F.ao = some (.string t)
theorem NamedAt.kept {F : Fix} {w w' : World} (h : NamedAt F w) (k : ∀ j, j < F.b → w'.heap[j]? = w.heap[j]?) : NamedAt F w' :=
  ⟨h.lo, h.le, by rw [k _ h.lo]; exact h.ho, by rw [k _ h.le]; exact h.he, by
    obtain ⟨t, h1, h2⟩ := h.text
    exact ⟨t, h1, by rw [← h2]; simp [World.cell?, k _ h.lo]⟩⟩
theorem NamedAt.errB {F : Fix} {w : World} (h : NamedAt F w) : ErrB F.b F.ae.addr F.ao w := by
  obtain ⟨ca, ta, h1⟩ := h.ho
  obtain ⟨cb, tb, h2⟩ := h.he
  exact ⟨ca, cb, ta, tb, h1, h2, Nat.ne_of_lt h.lo, Nat.ne_of_lt h.le⟩
structure MSt (F : Fix) (w0 : World) (vm0 : Value) (p n : Nat) (w : World) (x : Lx) (vt ve vm : Value) : Prop where
  mx : MxAt w F.b F.ae F.ao x F.vd vt ve vm
  kept : KeptM F.b vm0 vm w0 w
  good : Good F.l F.mu n x
  gr : Gr F.b w
  nm : NamedAt F w
  mov : F.g → p ≤ x.pos ∧ Ref x
def MEnd (F : Fix) (w0 : World) (vm0 : Value) (p n : Nat) (Q : Value → Lx → World → Value → Prop) (e : Ending) (w' : World) : Prop :=
  ∃ (r : Value) (x' : Lx) (vt ve vm : Value), e = .returned r ∧ Q r x' w' vm ∧ MSt F w0 vm0 p n w' x' vt ve vm
section
variable {F : Fix} {w0 w w' : World} {vm0 vt ve vm : Value} {p n m : Nat} {x x' : Lx} {Q Q' : Value → Lx → World → Value → Prop} {e : Ending}
theorem MSt.le (h : MSt F w0 vm0 p n w x vt ve vm) (hn : n ≤ m) : MSt F w0 vm0 p m w x vt ve vm := ⟨h.mx, h.kept, h.good.le hn, h.gr, h.nm, h.mov⟩
theorem MSt.start (h : MSt F w0 vm0 p n w x vt ve vm) : MSt F w vm x.pos n w x vt ve vm := ⟨h.mx, .refl _ _ _, h.good, h.gr, h.nm, fun g => ⟨Nat.le_refl _, (h.mov g).2⟩⟩
theorem MEnd.le (h : MEnd F w0 vm0 p n Q e w') (hn : n ≤ m) : MEnd F w0 vm0 p m Q e w' := by
  obtain ⟨r, x', vt, ve, vm, h1, h2, h3⟩ := h
  exact ⟨r, x', vt, ve, vm, h1, h2, h3.le hn⟩
theorem MSt.lx (h : MSt F w0 vm0 p n w x vt ve vm) : LexAt w F.b (F.ae.both vm) F.ao x F.vd vt ve vm := h.mx.lx
theorem MSt.step (h : MSt F w0 vm0 p n w x vt ve vm) (k : Kept F.b w w') {vt' ve' : Value} (hx : LexAt w' F.b (F.ae.both vm) F.ao x' F.vd vt' ve' vm) (hs : x'.errs = x.errs) (hg : Good F.l F.mu n x') (hm : F.g → x.pos ≤ x'.pos ∧ Ref x') :
    MSt F w0 vm0 p n w' x' vt' ve' vm :=
  ⟨h.mx.kept k hx hs, h.kept.trans (.of k vm), hg, h.gr.kept k, h.nm.kept fun j hj => k.block j (Nat.lt_trans hj h.lx.lt) (Nat.ne_of_lt hj), fun g => ⟨Nat.le_trans (h.mov g).1 (hm g).1, (hm g).2⟩⟩
theorem MSt.num (h : MSt F w0 vm0 p n w x vt ve vm) (hd : NumDone w F.b (F.ae.both vm) F.ao x' F.vd vm w') (hs : x'.errs = x.errs) (hg : Good F.l F.mu n x') (hm : F.g → x.pos ≤ x'.pos ∧ Ref x') :
    ∃ vt' ve', MSt F w0 vm0 p n w' x' vt' ve' vm := by
  obtain ⟨vt', ve', h1, h2⟩ := hd
  exact ⟨vt', ve', h.step h2 h1 hs hg hm⟩
theorem MSt.below (h : MSt F w0 vm0 p n w x vt ve vm) (k : Below w.heap.size w w') : MSt F w0 vm0 p n w' x vt ve vm :=
  h.step (kept_below k F.b) (h.lx.belowNew k) rfl h.good (fun g => ⟨Nat.le_refl _, (h.mov g).2⟩)
theorem MSt.drewN (h : MSt F w0 vm0 p n w x vt ve vm) (k : Nat) : MSt F w0 vm0 p n (w.drewN k) x vt ve vm := h.below (below_drewN w k)
theorem MSt.alloc (h : MSt F w0 vm0 p n w x vt ve vm) (o : Obj) : MSt F w0 vm0 p n (w.alloc o) x vt ve vm := h.below (below_alloc w o)
theorem MSt.bytes (h : MSt F w0 vm0 p n w x vt ve vm) : BytesAt w ((F.ae.both vm).off F.b) vt x.tok := h.lx.tok
theorem MSt.fetched (h : MSt F w0 vm0 p n w x vt ve vm) : F.g → x.pos ≤ x.fetch.pos ∧ Ref x.fetch := fun _ => ⟨fetch_pos h.good.wf, fetch_ref h.good.wf⟩
theorem MSt.freshOld (h : MSt F w0 vm0 p n w x vt ve vm) (hk : x.kind ≠ 0 ∨ x.ok = false) : F.g → x.multi = true → x.ok = true → Fresh x := fun g hm ho => by
  rcases hk with hk | hk
  · exact (h.mov g).2 hm hk ho
  · rw [hk] at ho; cases ho
theorem MSt.freshNew (h : MSt F w0 vm0 p n w x vt ve vm) : F.g → x.fetch.multi = true → x.fetch.ok = true → Fresh x.fetch := fun _ _ ho => fetch_fresh h.good.wf ho
theorem MSt.newErr (h : MSt F w0 vm0 p n w x vt ve vm) (s t : ByteArray) {o : Nat} (ho : o ≤ F.l.length) :
    MSt F w0 vm0 p n ((w.setCell ⟨F.b, 11, none⟩ (.iface 60 (.pointer (some ⟨w.heap.size, 0, none⟩)))).alloc (.cells #[.string s, .int .i64 o, .string t] 66)) { x with err := .lex o } vt (.iface 60 (.pointer (some ⟨w.heap.size, 0, none⟩))) vm :=
  h.step (((Kept.refl F.b w).setCell 11 _).alloc _) (h.lx.newErr' s t o) rfl (h.good.err rfl fun o' e => by obtain rfl := Er.lex.inj e; exact ho) fun _ => ⟨Nat.le_refl _, fun _ _ e => by cases e⟩
theorem fetchM (h : MSt F w0 vm0 p n w x vt ve vm) :
    Calls Tryz.prog 86 #[.pointer (some ⟨F.b, 0, none⟩)] w (MEnd F w0 vm0 p n fun r x' _ vm' => r = .tuple #[] ∧ x' = x.fetch ∧ vm' = vm) := by
  refine (fetchToken_any h.lx h.good.wf).mono ?_
  rintro e w' ⟨rfl, hd⟩
  obtain ⟨vt', ve', h1⟩ := h.num hd fetch_same.errs h.good.fetch h.fetched
  exact ⟨_, _, vt', ve', vm, rfl, ⟨rfl, rfl, rfl⟩, h1⟩
theorem consumeM (h : MSt F w0 vm0 p n w x vt ve vm) :
    Calls Tryz.prog 104 #[.pointer (some ⟨F.b, 0, none⟩)] w fun e w' => e = .returned (.tuple #[]) ∧ MSt F w0 vm0 p n w' x.consume vt ve vm := by
  refine (consume_any h.lx).mono ?_
  rintro e w' ⟨rfl, h1, h2⟩
  exact ⟨rfl, h.step h2 h1 rfl h.good.consume fun _ => ⟨Nat.le_refl _, consume_ref⟩⟩
theorem okM (h : MSt F w0 vm0 p n w x vt ve vm) : Calls Tryz.prog 47 #[.pointer (some ⟨F.b, 0, none⟩)] w fun e w' => e = .returned (.bool x.ok) ∧ w = w' := ok_any h.lx
theorem addM (h : MSt F w0 vm0 p n w x vt ve vm) (hn : n ≤ 1000000) {kE o : Nat} {s t : ByteArray} (hE : w.heap[kE]? = some (.cells #[.string s, .int .i64 o, .string t] 66 (0, 0))) (hb : kE ≠ F.b) (hoff : ¬ ((F.ae.both vm).off F.b kE)) (ho : o ≤ F.l.length) :
    Calls Tryz.prog 108 #[.pointer (some ⟨F.b, 0, none⟩), .pointer (some ⟨kE, 0, none⟩)] w (MEnd F w0 vm0 p (n + 1) fun r x' _ _ => r = .tuple #[] ∧ x' = x.addNf o) := by
  refine (addNf_any h.mx (Nat.le_trans h.good.cnt hn) hE hb hoff).mono ?_
  rintro e w' ⟨rfl, vt', ve', vm', h1, h2⟩
  have hk : ∀ k, k < F.b → w'.heap[k]? = w.heap[k]? := fun k hk => h2.block k (Nat.lt_trans hk h.lx.lt) (Nat.ne_of_lt hk) (fun e => by
    obtain ⟨ks, hr, -⟩ := h.mx.row
    have := (hr.lt k e).1
    omega)
  refine ⟨_, _, vt', ve', vm', rfl, ⟨rfl, rfl⟩, h1, h.kept.trans h2, h.good.addNf ho, ?_, h.nm.kept hk, fun g => ⟨by rw [addNf_pos]; exact (h.mov g).1, addNf_ref (h.mov g).2 o⟩⟩
  obtain ⟨u, h3, h4, h5⟩ := h.gr
  exact ⟨u, h3, h4, h5.trans ⟨h2.os, h2.tape, h2.output, h2.size, fun k hk' => hk k (by omega)⟩⟩
end
theorem addM_new {F : Fix} {w0 w : World} {vm0 vt ve vm : Value} {p n : Nat} {x : Lx} (h : MSt F w0 vm0 p n w x vt ve vm) (hn : n ≤ 1000000) (s t : ByteArray) {o : Nat} (ho : o ≤ F.l.length) :
    Calls Tryz.prog 108 #[.pointer (some ⟨F.b, 0, none⟩), .pointer (some ⟨w.heap.size, 0, none⟩)] (w.alloc (.cells #[.string s, .int .i64 o, .string t] 66)) (MEnd F w0 vm0 p (n + 1) fun r x' _ _ => r = .tuple #[] ∧ x' = x.addNf o) :=
  addM (h.alloc _) hn (heap_alloc_new w _) (Nat.ne_of_gt h.lx.lt) h.lx.fresh ho
theorem MSt.startLe {F : Fix} {w0 w : World} {vm0 vt ve vm : Value} {p n : Nat} {x : Lx} (h : MSt F w0 vm0 p n w x vt ve vm) : x.start ≤ F.l.length := by
  have h1 := h.good.wf.start
  have h2 := h.good.wf.pos
  rw [h.good.d] at h2
  omega
def Fix.blind (F : Fix) : Fix := { F with g := False }
theorem MSt.off {F : Fix} {w0 w : World} {vm0 vt ve vm : Value} {p n : Nat} {x : Lx} (h : MSt F w0 vm0 p n w x vt ve vm) : MSt F.blind w0 vm0 p n w x vt ve vm := ⟨h.mx, h.kept, h.good, h.gr, ⟨h.nm.lo, h.nm.le, h.nm.ho, h.nm.he, h.nm.text⟩, fun e => e.elim⟩
theorem MSt.on {F : Fix} {w0 w : World} {vm0 vt ve vm : Value} {p n : Nat} {x : Lx} (h : MSt F.blind w0 vm0 p n w x vt ve vm) (hm : F.g → p ≤ x.pos ∧ Ref x) : MSt F w0 vm0 p n w x vt ve vm := ⟨h.mx, h.kept, h.good, h.gr, ⟨h.nm.lo, h.nm.le, h.nm.ho, h.nm.he, h.nm.text⟩, hm⟩
end Go.Proofs.YtaecbclonmhbcaaGreatDoor

namespace Go.Proofs.YtaecbclonmhbcaaGreatDoor
open Go.RowKit
theorem info3 : (Tryz.prog.info? 3).map (fun i => (i.zero, i.size, i.bytes)) = some (some (.int .i64 0), 1, 8) := by kernel_rfl
theorem grown_less {w w' : World} {r : Option Nat} {B : Nat} (h : w.grownBy w' r) (hB : ∀ k, r = some k → B ≤ k) (hs : B ≤ w.heap.size) : Below B w w' :=
  ⟨h.os, h.tape, h.output, h.size, fun k hk => h.block k (by omega) (by intro e; have := hB k e.symm; omega)⟩
theorem push_row {w : World} {s st n : Nat} {et : Bool} {vp er : Value} {bn : Int} (h : ScAt w s st n et vp er bn) (hn : n ≤ 1000000) (z : Int) (ad : Addr) (c : Nat) (hc : w.cell? ad = some (.int .i64 z)) :
    ∃ v' w', (Builtin.append_ #[40, 40] 40 #[vp, .slice (some ad) 1 c]).run Tryz.prog w = .ok v' w' ∧ (∃ p c, v' = .slice p (n + 1) c) ∧ (∃ xs : List Int, w'.ownsRow (s + 1) 3 1 v' (n + 1) (xs.map (.int .i64))) ∧ Below (s + 1) w w' := by
  obtain ⟨i, hi, hz, hz1, hz2⟩ := info_parts info3
  obtain ⟨xs, hx⟩ := h.row
  obtain ⟨v', w', hr, h2, h3, h4⟩ := run_append_own (P := Tryz.prog) w (s + 1) 40 40 3 i _ 1 8 Tryz.underlying40 hi hz hz1 hz2 rfl (by decide) vp n _ hx ad 1 c [.int .i64 z] rfl
    (by intro j u hj; cases j with
      | zero => simp only [List.getElem?_cons_zero, Option.some.injEq] at hj; subst hj; rw [show ad.add 0 = ad from by unfold Addr.add; split <;> simp_all]; exact hc
      | succ j => simp at hj)
    (by intro u hu; simp only [List.mem_singleton] at hu; subst hu; rfl) (by unfold maxLen; omega) (by omega) h.lt
  refine ⟨v', w', hr, ?_, ⟨xs ++ [z], by simpa using h2⟩, grown_less h3 (fun k hk => (hx.lt k hk).1) h.lt⟩
  rcases h2.2 with ⟨-, h0⟩ | ⟨g, cp, cur, rfl, -⟩
  · omega
  · exact ⟨_, cp, rfl⟩
theorem ScAt.newRow {w w' : World} {s st n n' : Nat} {et : Bool} {vp er v' : Value} {bn : Int} (h : ScAt w s st n et vp er bn) (k : Below (s + 1) w w') (hr : ∃ xs : List Int, w'.ownsRow (s + 1) 3 1 v' n' (xs.map (.int .i64))) :
    ScAt (w'.setCell ⟨s, 2, none⟩ v') s st n' et v' er bn :=
  ⟨heap_setCell ((k.block _ (Nat.lt_succ_self _)).trans h.heap) 2 _, by obtain ⟨xs, hx⟩ := hr; exact ⟨xs, ownsRow_setCell_below hx (Nat.lt_succ_self _) _⟩, h.err, h.mem⟩
set_option maxHeartbeats 4000000 in
set_option maxRecDepth 100000 in
theorem push_any (c z r : Int) {w : World} {s st n : Nat} {et : Bool} {vp er : Value} {bn : Int} (h : ScAt w s st n et vp er bn) (hn : n ≤ 100000) (hG : Gr s w) :
    Calls Tryz.prog 185 #[.pointer (some ⟨s, 0, none⟩), .int .u8 c, .int .i64 z, .int .i64 r] w (fun e w' => ∃ (r : Int) (st' n' : Nat) (et' : Bool) (vp' er' : Value) (bn' : Int), e = .returned (.int .i64 r) ∧ ScAt w' s st' n' et' vp' er' bn' ∧ n' = n + 1 ∧ (st' = st ∨ st' = 218) ∧ Below s w w') := by
  have ha := h.new (below_alloc w (.cells #[.int .i64 z] 3))
  obtain ⟨v', w', hr, ⟨p, cp, hv⟩, hrow, hb⟩ := push_row ha (by omega) z ⟨w.heap.size, 0, none⟩ 1 (cell_of_heap (heap_alloc_new _ _) 0 rfl)
  subst hv
  obtain ⟨p0, c0, hv0⟩ := h.form
  have c2 := h.c2
  subst hv0
  have hh : w'.heap[s]? = some _ := (hb.block _ (Nat.lt_succ_self _)).trans ha.heap
  have d2 := cell_of_heap hh 2 rfl
  have z2 := free_of_heap hh 2
  have H := Lib.hid (ha.newRow (n' := n + 1) hb hrow)
  have hb' : Below s w w' := (below_less (below_alloc w _) (Nat.le_of_lt h.lt)).trans (below_less hb (Nat.le_succ s))
  have HB := Lib.hid (below_setCell (i := 2) (v := .slice p (n + 1) cp) hb' (Nat.le_refl s))
  have HR := Lib.hid hr
  have HG := Lib.hid (hG.less HB.out)
  clear h ha hrow hb hb' hh hG hr
  by_cases h1 : n + 1 ≤ 10000
  · have h1' : (n : Int) + 1 ≤ 10000 := by omega
    go_enter Tryz.func185, Tryz.ntmps185
    go_wp2_with (at_builtin; refine Lib.wpList_append_run_sl _ rfl _ _ 40 rfl _ _ rfl rfl HR.out ?_)
    go_ret
    exact ⟨_, st, n + 1, et, _, er, bn, rfl, H.out, rfl, .inl rfl, HB.out⟩
  · have h1' : 10000 < (n : Int) + 1 := by omega
    go_enter Tryz.func185, Tryz.ntmps185
    go_wp2_with (first
      | (at_builtin; refine Lib.wpList_append_run_sl _ rfl _ _ 40 rfl _ _ rfl rfl HR.out ?_)
      | (go_at_call 194; refine (scErr_any c _ (by decide) H.out HG.out).mono ?_; rintro e w2 ⟨er2, rfl, hs2, hb2⟩; have H2 := Lib.hid hs2; have HB2 := Lib.hid hb2; clear hs2 hb2))
    go_ret
    exact ⟨_, 218, n + 1, et, _, er2, bn, rfl, H2.out, rfl, .inr rfl, HB.out.trans HB2.out⟩
theorem ScAt.pop {w : World} {s st n : Nat} {et : Bool} {er : Value} {p : Option Addr} {bn : Int} {cp : Nat} (h : ScAt w s st n et (.slice p n cp) er bn) (hn : 0 < n) :
    (∃ g, p = some ⟨g, 0, none⟩ ∧ s < g) ∧ n ≤ cp ∧ ScAt (w.setCell ⟨s, 2, none⟩ (.slice p (n - 1) cp)) s st (n - 1) et (.slice p (n - 1) cp) er bn := by
  obtain ⟨xs, hx⟩ := h.row
  obtain ⟨hl, h2⟩ := hx
  rcases h2 with ⟨-, h0⟩ | ⟨g, c', cur, hv, hg, hh, hc, hm, hsz, ht⟩
  · omega
  · simp only [Value.slice.injEq] at hv
    obtain ⟨rfl, -, rfl⟩ := hv
    refine ⟨⟨g, rfl, hg⟩, hc, h.setRow _ _ ⟨xs.take (n - 1), by simp at hl ⊢; omega, .inr ⟨g, cp, cur, rfl, hg, hh, by omega, hm, hsz, ?_⟩⟩⟩
    rw [Nat.mul_one] at ht ⊢
    rw [List.map_take, ← ht, List.take_take, Nat.min_eq_left (by omega)]
set_option maxHeartbeats 4000000 in
set_option maxRecDepth 100000 in
theorem pop_any {w : World} {s st n : Nat} {et : Bool} {vp er : Value} {bn : Int} (h : ScAt w s st n et vp er bn) (hn : 0 < n) (hn2 : n ≤ 200000) :
    Calls Tryz.prog 229 #[.pointer (some ⟨s, 0, none⟩)] w (fun e w' => ∃ (st' : Nat) (et' : Bool) (vp' : Value), e = .returned (.tuple #[]) ∧ ScAt w' s st' (n - 1) et' vp' er bn ∧ st' ≠ 184 ∧ Below s w w') := by
  obtain ⟨p, cp, rfl⟩ := h.form
  obtain ⟨⟨g, rfl, hg⟩, hc, h1⟩ := h.pop hn
  have c2 := h.c2
  have c0 := h.c0
  have c1 := h.c1
  have z0 := h.free 0
  have z1 := h.free 1
  have z2 := h.free 2
  have hsf := store_fn
  have hw : wrap64 ((n : Int) - 1) = (n : Int) - 1 := by unfold wrap64; omega
  have htn : ((n : Int) - 1).toNat = n - 1 := by omega
  have hge : (0 : Int) ≤ (n : Int) - 1 := by omega
  have hle : (n : Int) - 1 ≤ (cp : Int) := by omega
  have HB := Lib.hid (below_setCell (i := 2) (v := .slice (some ⟨g, 0, none⟩) (n - 1) cp) (Below.refl s w) (Nat.le_refl s))
  have H1 := Lib.hid h1
  have hlt := h.lt
  clear h h1
  by_cases h0 : n = 1
  · subst h0
    go_enter Tryz.func229, Tryz.ntmps229
    go_wp2
    go_end0
    exact ⟨228, true, _, rfl, (H1.out.setStep 228 (by decide)).setTop true, by decide, below_setCell (below_setCell HB.out (Nat.le_refl s)) (Nat.le_refl s)⟩
  · have h0' : ¬ (n : Int) - 1 = 0 := by omega
    go_enter Tryz.func229, Tryz.ntmps229
    go_wp2
    go_end0
    exact ⟨210, et, _, rfl, H1.out.setStep 210 (by decide), by decide, below_setCell HB.out (Nat.le_refl s)⟩
theorem ScAt.top {w : World} {s st n : Nat} {et : Bool} {er : Value} {p : Option Addr} {bn : Int} {cp : Nat} (h : ScAt w s st n et (.slice p n cp) er bn) (hn : 0 < n) :
    ∃ (g : Nat) (z : Int), p = some ⟨g, 0, none⟩ ∧ s < g ∧ w.cell? ⟨g, n - 1, none⟩ = some (.int .i64 z) ∧ w.frozen? ⟨g, n - 1, none⟩ = false ∧
      ∀ z', ScAt (w.setCell ⟨g, n - 1, none⟩ (.int .i64 z')) s st n et (.slice p n cp) er bn := by
  obtain ⟨xs, hx⟩ := h.row
  obtain ⟨g, c, hv⟩ : ∃ g c, Value.slice p n cp = .slice (some ⟨g, 0, none⟩) n c := by
    rcases hx.2 with ⟨-, h0⟩ | ⟨g, c, cur, hv, -⟩
    · omega
    · exact ⟨g, c, hv⟩
  simp only [Value.slice.injEq, true_and] at hv
  obtain ⟨rfl, rfl⟩ := hv
  have hg := (hx.lt g rfl).1
  have hl := hx.1
  simp only [List.length_map, Nat.mul_one] at hl
  refine ⟨g, xs.getD (n - 1) 0, rfl, by omega, ?_, hx.frozenAt _, fun z' => ⟨(heap_setCell_other _ _ (by omega)).trans h.heap, ⟨xs.set (n - 1) z', by rw [List.map_set]; exact (hx.stored (n - 1) (.int .i64 z')).1⟩, h.err, h.mem⟩⟩
  rw [hx.cellAt (n - 1) (by omega)]
  have : n - 1 < xs.length := by omega
  simp [List.getD, this]
end Go.Proofs.YtaecbclonmhbcaaGreatDoor
