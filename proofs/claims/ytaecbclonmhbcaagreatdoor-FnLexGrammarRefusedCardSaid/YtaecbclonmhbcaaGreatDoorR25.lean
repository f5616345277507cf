/- laws.knownLexer. laws.one. The walk of FnLexAdded. Appending to slices that the call made itself: bytes, and calls. json's scanner as it lies in memory; isSpace, quoteChar, error, and the stack of states. Skip, WantComma, WantColon, Consumed, of a lexer with one error. -/
import Derived.Test.YtaecbclonmhbcaaGreatDoorR24
import Derived.Lib.SlBytesConst
import Derived.Laws.ResultCell
import Derived.Test.YtaecbclonmhbcaaGreatDoorR23
import Derived.Test.YtaecbclonmhbcaaGreatDoorR20
import Derived.StillTailTactics
import Derived.Test.YtaecbclonmhbcaaGreatDoorR14
import Derived.Laws.Cover4
import Derived.Deep.RegionHeld3
import Derived.BigQuiet
set_option linter.unusedVariables false
set_option linter.unusedSimpArgs false
namespace Go.Proofs.YtaecbclonmhbcaaGreatDoor
open Go.RowKit
theorem known_bytes (w : World) (o2 : Obj) : BytesAt ((w.alloc (.cells #[.int .u8 32, .int .u8 49, .int .u8 50, .int .u8 32, .int .u8 34, .int .u8 97, .int .u8 92, .int .u8 110, .int .u8 34] 5 (9, 10))).alloc o2) (fun _ => False) (.slice (some ⟨w.heap.size, 0, none⟩) 9 9) knownD := by
  refine .inr ⟨w.heap.size, 0, 9, rfl, by decide, ⟨id, by simp; omega⟩, fun i hi => ?_⟩
  have hh : ((w.alloc (.cells #[.int .u8 32, .int .u8 49, .int .u8 50, .int .u8 32, .int .u8 34, .int .u8 97, .int .u8 92, .int .u8 110, .int .u8 34] 5 (9, 10))).alloc o2).heap[w.heap.size]? = _ := (heap_alloc_lt (by simp)).trans (heap_alloc_new w _)
  match i, hi with
  | 0, _ => exact cell_of_heap hh 0 rfl
  | 1, _ => exact cell_of_heap hh 1 rfl
  | 2, _ => exact cell_of_heap hh 2 rfl
  | 3, _ => exact cell_of_heap hh 3 rfl
  | 4, _ => exact cell_of_heap hh 4 rfl
  | 5, _ => exact cell_of_heap hh 5 rfl
  | 6, _ => exact cell_of_heap hh 6 rfl
  | 7, _ => exact cell_of_heap hh 7 rfl
  | 8, _ => exact cell_of_heap hh 8 rfl
theorem known_calls (w : World) (o1 : Obj) : CallsAt ((w.alloc o1).alloc (.cells #[.int .i64 24, .int .i64 0, .slice none 0 0, .int .i64 13, .int .i64 0, .slice none 0 0] 27)) (w.heap.size + 1) 0 [(24, 0), (13, 0)] := by
  have hh := heap_alloc2_new w o1 (.cells #[.int .i64 24, .int .i64 0, .slice none 0 0, .int .i64 13, .int .i64 0, .slice none 0 0] 27)
  intro k hk
  match k, hk with
  | 0, _ => exact ⟨cell_of_heap hh 0 rfl, cell_of_heap hh 1 rfl, cell_of_heap hh 2 rfl⟩
  | 1, _ => exact ⟨cell_of_heap hh 3 rfl, cell_of_heap hh 4 rfl, cell_of_heap hh 5 rfl⟩
theorem below_end {w w1 w2 : World} {a c o : Obj} {n : Nat} (h : Below ((w.alloc a).alloc c).heap.size ((w.alloc a).alloc c) w1) (h2 : w2 = (w1.alloc o).drewN n) : Below w.heap.size w w2 := by
  have hs : ((w.alloc a).alloc c).heap.size = w.heap.size + 2 := by simp
  have h1 : Below w.heap.size w ((w.alloc a).alloc c) := ((Below.refl w.heap.size w).alloc (Nat.le_refl _) a).alloc (by simp) c
  have h3 : Below w.heap.size w w1 := h1.trans (h.mono (by omega))
  have h4 := h3.alloc h3.size o
  rw [h2]
  exact ⟨h4.os, h4.tape, h4.output, h4.size, h4.block⟩
set_option maxHeartbeats 4000000 in
set_option maxRecDepth 100000 in
theorem known_any {w : World} {ae : Sur} {ao : Addr} (he : Env w ae ao) (_h2 : 1 < w.heap.size) :
    Calls Tryz.prog 12 #[] w fun e w' => e = .returned (.bool true) ∧ Below w.heap.size w w' := by
  have kc := fun (W : World) (C : Array Value) (n c : Nat) => Lib.run_convert_bytes_const (P := Tryz.prog) W 22 5 C n c Tryz.underlying22 Tryz.underlying5
  have kb : ∀ W : World, BytesAt (W.alloc (.cells #[.int .u8 97, .int .u8 10] 5 (2, 3))) (fun _ => False) (.slice (some ⟨W.heap.size, 0, none⟩) 2 2) [97, 10] := fun W =>
    .inr ⟨W.heap.size, 0, 2, rfl, by decide, ⟨id, by simp⟩, fun i hi => by
      match i, hi with
      | 0, _ => exact cell_of_heap (heap_alloc_new W _) 0 rfl
      | 1, _ => exact cell_of_heap (heap_alloc_new W _) 1 rfl⟩
  have KB := Lib.hid kb
  clear kb
  go_enter Tryz.func12, Tryz.ntmps12
  go_wp2_with (first
    | (go_at_call 13; refine (lex_known (known_bytes w _) (ae := ae) (ao := ao) ((he.grown (World.grownBy_alloc _ _ none) (by simp) (by simp)).grown (World.grownBy_alloc _ _ none) (by simp) (by simp)) (by simp) (w.heap.size + 1) 0 2 (known_calls w _) (by simp)).mono ?_; intro e w1 h0; obtain ⟨v', s, he1, hown, hbt, hbel⟩ := h0; subst he1; obtain ⟨g, cap, cur, hv, -⟩ : ∃ g cap cur, v' = .slice (some ⟨g, 0, none⟩) 2 cap ∧ w1.heap[g]? = some (.cells cur 30 (0, 0)) := (by rcases hown.2 with ⟨-, h⟩ | ⟨g, cap, cur, h1, -, h2, -⟩; exact absurd h (by decide); exact ⟨g, cap, cur, h1, h2⟩); subst hv; have y0 := hown.cellAt 0 (by decide); have y5 := hown.cellAt 5 (by decide); have y6 := hown.cellAt 6 (by decide); simp only [List.getElem?_cons_succ, List.getElem?_cons_zero] at y0 y5 y6; obtain ⟨sp, sc, rfl⟩ := (hbt (fun _ => False) (fun _ a => a.elim)).isSlice; have HBT := Lib.hid hbt; have HBL := Lib.hid hbel; clear hown hbt hbel)
    | (go_at_call 24; refine (equal_an ((HBT.out (fun _ => False) (fun _ a => a.elim)).grown (World.grownBy_alloc _ _ none) (by simp)) (KB.out _)).mono ?_; rintro e w2 ⟨rfl, n, hn⟩; have y6' : w2.cell? ⟨g, 6, none⟩ = some (.int .i64 0) := (by rw [hn, World.cell?_drewN]; exact (World.grownBy_alloc w1 _ none).cell y6 (by simp)); have HB2 : RowKit.Hid (Below w.heap.size w w2) := below_end HBL.out hn; clear hn))
  go_ret
  exact ⟨rfl, HB2.out⟩
end Go.Proofs.YtaecbclonmhbcaaGreatDoor

namespace Go.Proofs.YtaecbclonmhbcaaGreatDoor
open Go.RowKit
theorem results_cell_row_tmp {P : Program} {fn : Func} {p u : Tmp} {ty : TypeId} (h : fn.results = #[.cell p ty, .tmp u]) (tmps : Array Value) (w : World) (g : Nat) (t : TypeId) (cs : Array Value) (fr : Nat × Nat) (d : TypeDesc)
    (hp : tmps.getD p undef = .pointer (some ⟨g, 0, none⟩)) (hg : w.heap[g]? = some (.cells cs t fr))
    (hu : P.underlying ty = some d) (hd : (match d with | .struct _ | .array _ _ => true | _ => false) = true) (hi : (P.info? ty).map (·.size) = some cs.size) :
    (results fn tmps).run P w = .ok (.tuple #[.agg cs, tmps.getD u undef]) w := by
  rw [results_cell_tmp h, hp]
  simp [asAddr, run_loadVar_row w g t ty cs fr d hg hu hd hi]
end Go.Proofs.YtaecbclonmhbcaaGreatDoor

namespace Go.Proofs.YtaecbclonmhbcaaGreatDoor
open Go.RowKit
theorem env_below {w w' : World} {ae : Sur} {ao : Addr} {B : Nat} (h : Env w ae ao) (hb : Below B w w') (hB : 1 < B) : Env w' ae ao :=
  ⟨(hb.cell (p := ⟨1, 0, none⟩) hB).trans h.eof, (hb.cell (p := ⟨0, 0, none⟩) (Nat.lt_trans Nat.zero_lt_one hB)).trans h.other, h.ne⟩
end Go.Proofs.YtaecbclonmhbcaaGreatDoor

namespace Go.Proofs.YtaecbclonmhbcaaGreatDoor
open Go.RowKit
section
variable {w w' : World} {base : Nat} {v : Value} {n : Nat}
theorem append_bytes {xs ls : List Int} (hown : w.ownsRow base 5 1 v xs.length (byteVs xs)) {A : Nat → Prop} {u : Value} (hu : BytesAt w A u ls) (hn : xs.length + ls.length ≤ 1000000) (hbase : base ≤ w.heap.size) :
    ∃ v' w', (Builtin.append_ #[22, 22] 22 #[v, u]).run Tryz.prog w = .ok v' w' ∧ w'.ownsRow base 5 1 v' (xs ++ ls).length (byteVs (xs ++ ls)) ∧ w.grownBy w' v.ownBlock ∧
      (v'.ownBlock = v.ownBlock ∨ ∃ k, w.heap.size ≤ k ∧ v'.ownBlock = some k) := by
  obtain ⟨i, hi, hz, hz1, hz2⟩ := info_parts info5
  rcases hu with ⟨rfl, rfl⟩ | ⟨b, o, cap, rfl, hc, hlt, hx⟩
  · refine ⟨v, w, run_append_owned_none (P := Tryz.prog) w base 22 22 5 i 1 Tryz.underlying22 hi v _ _ hown, by simpa using hown, grownBy_self w, .inl rfl⟩
  · obtain ⟨v', w', hr, ho, hg, hb⟩ := append_any (P := Tryz.prog) (t := 22) Tryz.underlying22 hi hz hz1 hz2 rfl (by decide) (by decide) hown ⟨b, o, none⟩ ls.length cap (byteVs ls) (by simp [byteVs])
      (fun j x hj => by
        simp only [byteVs, List.getElem?_map] at hj
        obtain ⟨y, hy, rfl⟩ := Option.map_eq_some_iff.1 hj
        have hjl := (List.getElem?_eq_some_iff.1 hy).1
        have := hx j hjl
        rw [show ls.getD j 0 = y by simp [List.getD, hy]] at this
        rw [addr_add, this]) (byteVs_one ls) hn hbase
    exact ⟨v', w', hr, by rw [List.length_append, byteVs_append]; exact ho, hg, hb⟩
theorem append_byte {xs : List Int} (hown : w.ownsRow base 5 1 v xs.length (byteVs xs)) (c : Int) (hn : xs.length + 1 ≤ 1000000) (hbase : base ≤ w.heap.size) :
    ∃ v' w', (Builtin.append_ #[22, 22] 22 #[v, .slice (some ⟨w.heap.size, 0, none⟩) 1 1]).run Tryz.prog (w.alloc (.cells #[.int .u8 c] 5)) = .ok v' w' ∧ w'.ownsRow base 5 1 v' (xs ++ [c]).length (byteVs (xs ++ [c])) ∧ w.grownBy w' v.ownBlock ∧
      (v'.ownBlock = v.ownBlock ∨ ∃ k, w.heap.size ≤ k ∧ v'.ownBlock = some k) := by
  have hsz : (w.alloc (.cells #[.int .u8 c] 5)).heap.size = w.heap.size + 1 := by simp
  obtain ⟨v', w', hr, ho, hg, hb⟩ := append_bytes (hown.alloc (.cells #[.int .u8 c] 5)) (A := fun _ => False) (u := .slice (some ⟨w.heap.size, 0, none⟩) 1 1) (ls := [c])
    (.inr ⟨w.heap.size, 0, 1, rfl, by simp, ⟨id, by simp⟩, fun i hi => by
      obtain rfl : i = 0 := by simpa using hi
      exact cell_of_heap (heap_alloc_new w _) 0 rfl⟩) hn (by omega)
  refine ⟨v', w', hr, ho, ?_, ?_⟩
  · have h0 := World.grownBy_alloc w (.cells #[.int .u8 c] 5) v.ownBlock
    exact ⟨hg.os.trans h0.os, hg.tape.trans h0.tape, hg.output.trans h0.output, Nat.le_trans h0.size hg.size, fun k hk hne => (hg.block k (by omega) hne).trans (h0.block k hk hne)⟩
  · rcases hb with h | ⟨k, hk, h⟩
    · exact .inl h
    · exact .inr ⟨k, by omega, h⟩
end
end Go.Proofs.YtaecbclonmhbcaaGreatDoor

namespace Go.Proofs.YtaecbclonmhbcaaGreatDoor
open Go.RowKit
def stepFns : List Nat := [168, 184, 186, 187, 188, 189, 190, 191, 192, 193, 210, 211, 212, 213, 214, 215, 216, 217, 218, 228, 230, 231, 232, 233, 234, 235, 242, 243, 244, 248, 250]
structure ScAt (w : World) (s st n : Nat) (et : Bool) (vp er : Value) (bn : Int) : Prop where
  heap : w.heap[s]? = some (.cells #[.func (.func st) #[] #[], .bool et, vp, er, .int .i64 bn] 183 (0, 0))
  row : ∃ xs : List Int, w.ownsRow (s + 1) 3 1 vp n (xs.map (.int .i64))
  err : er = .nilIface ∨ ∃ v, er = .iface 194 v
  mem : st ∈ stepFns
section
variable {w w' : World} {s st n : Nat} {et : Bool} {vp er : Value} {bn : Int}
theorem ScAt.c0 (h : ScAt w s st n et vp er bn) : w.cell? ⟨s, 0, none⟩ = some (.func (.func st) #[] #[]) := cell_of_heap h.heap 0 rfl
theorem ScAt.c1 (h : ScAt w s st n et vp er bn) : w.cell? ⟨s, 1, none⟩ = some (.bool et) := cell_of_heap h.heap 1 rfl
theorem ScAt.c2 (h : ScAt w s st n et vp er bn) : w.cell? ⟨s, 2, none⟩ = some vp := cell_of_heap h.heap 2 rfl
theorem ScAt.c3 (h : ScAt w s st n et vp er bn) : w.cell? ⟨s, 3, none⟩ = some er := cell_of_heap h.heap 3 rfl
theorem ScAt.c4 (h : ScAt w s st n et vp er bn) : w.cell? ⟨s, 4, none⟩ = some (.int .i64 bn) := cell_of_heap h.heap 4 rfl
theorem ScAt.free (h : ScAt w s st n et vp er bn) (i : Nat) : w.frozen? ⟨s, i, none⟩ = false := free_of_heap h.heap i
theorem ScAt.lt (h : ScAt w s st n et vp er bn) : s < w.heap.size := lt_heap h.heap
theorem ScAt.form (h : ScAt w s st n et vp er bn) : ∃ p c, vp = .slice p n c := by
  obtain ⟨xs, -, h2⟩ := h.row
  rcases h2 with ⟨rfl, rfl⟩ | ⟨g, c, cur, rfl, -⟩
  · exact ⟨none, 0, rfl⟩
  · exact ⟨_, c, rfl⟩
theorem ownsRow_new {B : Nat} {v : Value} {xs : List Value} (h : w.ownsRow B 3 1 v n xs) (k : Below w.heap.size w w') : w'.ownsRow B 3 1 v n xs :=
  h.kept (row := none) ⟨k.os, k.tape, k.output, k.size, fun j hj _ => k.block j hj⟩ (by cases v.ownBlock with | none => exact .inl rfl | some j => exact .inr (by simp))
theorem ScAt.setRow (h : ScAt w s st n et vp er bn) (v' : Value) (n' : Nat) (hr : ∃ xs : List Int, w.ownsRow (s + 1) 3 1 v' n' (xs.map (.int .i64))) : ScAt (w.setCell ⟨s, 2, none⟩ v') s st n' et v' er bn :=
  ⟨heap_setCell h.heap 2 _, by obtain ⟨xs, hx⟩ := hr; exact ⟨xs, ownsRow_setCell_below hx (Nat.lt_succ_self _) _⟩, h.err, h.mem⟩
theorem ScAt.setErr (h : ScAt w s st n et vp er bn) (e : Value) (he : e = .nilIface ∨ ∃ v, e = .iface 194 v) : ScAt (w.setCell ⟨s, 3, none⟩ e) s st n et vp e bn :=
  ⟨heap_setCell h.heap 3 _, by obtain ⟨xs, hx⟩ := h.row; exact ⟨xs, ownsRow_setCell_below hx (Nat.lt_succ_self _) _⟩, he, h.mem⟩
theorem ScAt.new (h : ScAt w s st n et vp er bn) (k : Below w.heap.size w w') : ScAt w' s st n et vp er bn :=
  ⟨(k.block _ h.lt).trans h.heap, by obtain ⟨xs, hx⟩ := h.row; exact ⟨xs, ownsRow_new hx k⟩, h.err, h.mem⟩
end
theorem below_less {B C : Nat} {w w' : World} (h : Below B w w') (hc : C ≤ B) : Below C w w' := ⟨h.os, h.tape, h.output, h.size, fun k hk => h.block k (by omega)⟩
theorem below_alloc (w : World) (o : Obj) : Below w.heap.size w (w.alloc o) := ⟨rfl, rfl, rfl, by simp, fun k hk => heap_alloc_lt hk⟩
theorem byte_text (c : Int) : ∃ t : ByteArray, t.size ≤ 4 ∧ ∀ W, (convert 5 9 (.int .u8 c)).run Tryz.prog W = .ok (.string t) W := by
  refine ⟨Utf8.encode c, encode_size_le c, fun W => ?_⟩
  simp [convert, run_underlying Tryz.underlying5, run_underlying Tryz.underlying9, Conv.intToString]
theorem Gr.less {s : Nat} {w w' : World} (h : Gr s w) (k : Below s w w') : Gr s w' := by
  obtain ⟨w0, h1, h2, h3⟩ := h
  exact ⟨w0, h1, h2, h3.trans (below_less k h2)⟩
end Go.Proofs.YtaecbclonmhbcaaGreatDoor

namespace Go.Proofs.YtaecbclonmhbcaaGreatDoor
open Go.RowKit
namespace Lx
def comma (x : Lx) : Lx := { x with sep := 44, fst := false }
def colon (x : Lx) : Lx := { x with sep := 58, fst := false }
end Lx
section
variable {w w' : World} {b : Nat} {ae : Sur} {ao : Addr} {x : Lx} {vd vt ve vm : Value}
set_option maxHeartbeats 1000000 in
theorem wantComma_any (h : LexAt w b ae ao x vd vt ve vm) :
    Calls Tryz.prog 92 #[.pointer (some ⟨b, 0, none⟩)] w fun e w' => e = .returned (.tuple #[]) ∧ NumDone w b ae ao x.comma vd vm w' := by
  have H := Lib.hid h
  have c8 := h.c8
  have c9 := h.c9
  have f8 := h.free 8
  have f9 := h.free 9
  clear h
  go_enter Tryz.func92, Tryz.ntmps92
  go_wp2
  go_end0
  exact ⟨rfl, _, _, (H.out.setSep 44).setFst false, ((Kept.refl b w).setCell 9 _).setCell 8 _⟩
set_option maxHeartbeats 1000000 in
theorem wantColon_any (h : LexAt w b ae ao x vd vt ve vm) :
    Calls Tryz.prog 93 #[.pointer (some ⟨b, 0, none⟩)] w fun e w' => e = .returned (.tuple #[]) ∧ NumDone w b ae ao x.colon vd vm w' := by
  have H := Lib.hid h
  have c8 := h.c8
  have c9 := h.c9
  have f8 := h.free 8
  have f9 := h.free 9
  clear h
  go_enter Tryz.func93, Tryz.ntmps93
  go_wp2
  go_end0
  exact ⟨rfl, _, _, (H.out.setSep 58).setFst false, ((Kept.refl b w).setCell 9 _).setCell 8 _⟩
set_option maxHeartbeats 4000000 in
set_option maxRecDepth 100000 in
theorem skip_any (h : LexAt w b ae ao x vd vt ve vm) (hw : x.Wf) :
    Calls Tryz.prog 57 #[.pointer (some ⟨b, 0, none⟩)] w fun e w' => e = .returned (.tuple #[]) ∧ NumDone w b ae ao x.peek.consume vd vm w' := by
  have H := Lib.hid h
  have HW := Lib.hid hw
  by_cases hk : x.kind = 0
  case neg =>
    rw [peek_kept (by simp [hk])]
    have n1 : ((x.kind : Int) == 0) = false := beq_eq_false_iff_ne.2 (by omega)
    have c3 := h.c3
    clear h hw
    cases hok2 : x.ok with
    | false =>
      go_enter Tryz.func57, Tryz.ntmps57
      go_wp2_with (first | (go_at_call 47; refine (ok_any H.out).mono ?_; rintro e w' ⟨rfl, rfl⟩) | (go_at_call 104; refine (consume_any H.out).mono ?_; rintro e w3 ⟨rfl, g3, g4⟩; have c3lt := g3.lt; have G3 := Lib.hid g3; have G4 := Lib.hid g4; clear g3 g4))
      go_end0
      exact ⟨rfl, _, _, G3.out, G4.out⟩
    | true =>
      go_enter Tryz.func57, Tryz.ntmps57
      go_wp2_with (first | (go_at_call 47; refine (ok_any H.out).mono ?_; rintro e w' ⟨rfl, rfl⟩) | (go_at_call 104; refine (consume_any H.out).mono ?_; rintro e w3 ⟨rfl, g3, g4⟩; have c3lt := g3.lt; have G3 := Lib.hid g3; have G4 := Lib.hid g4; clear g3 g4))
      go_end0
      exact ⟨rfl, _, _, G3.out, G4.out⟩
  case pos =>
    have c3 := h.c3
    rw [hk] at c3
    cases hok : x.ok with
    | false =>
      rw [peek_kept (by simp [hok])]
      clear h hw
      go_enter Tryz.func57, Tryz.ntmps57
      go_wp2_with (first | (go_at_call 47; refine (ok_any H.out).mono ?_; rintro e w' ⟨rfl, rfl⟩) | (go_at_call 104; refine (consume_any H.out).mono ?_; rintro e w3 ⟨rfl, g3, g4⟩; have c3lt := g3.lt; have G3 := Lib.hid g3; have G4 := Lib.hid g4; clear g3 g4))
      go_end0
      exact ⟨rfl, _, _, G3.out, G4.out⟩
    | true =>
      rw [peek_new (by simp [hok, hk])]
      clear h hw hk
      go_enter Tryz.func57, Tryz.ntmps57
      go_wp2_with (first | (go_at_call 47; refine (ok_any H.out).mono ?_; rintro e w' ⟨rfl, rfl⟩) | (go_at_call 86; refine (fetchToken_any H.out HW.out).mono ?_; rintro e w1 ⟨rfl, vt1, ve1, g1, g2⟩; have G1 := Lib.hid g1; have G2 := Lib.hid g2; clear g1 g2) | (go_at_call 104; refine (consume_any G1.out).mono ?_; rintro e w3 ⟨rfl, g3, g4⟩; have c3lt := g3.lt; have G3 := Lib.hid g3; have G4 := Lib.hid g4; clear g3 g4))
      go_end0
      exact ⟨rfl, _, _, G3.out, G2.out.trans G4.out⟩
theorem addErrLex_any (h : LexAt w b ae ao x vd vt ve vm) (s t : ByteArray) (o : Nat) :
    Calls Tryz.prog 48 #[.pointer (some ⟨b, 0, none⟩), .iface 60 (.pointer (some ⟨w.heap.size, 0, none⟩))] (w.alloc (.cells #[.string s, .int .i64 o, .string t] 66)) fun e w' => e = .returned (.tuple #[]) ∧ ∃ x', NumDone w b ae ao x' vd vm w' ∧ x'.Same x ∧ x'.ok = false ∧ x'.start = x.start ∧ x'.pos = x.pos := by
  have H := Lib.hid (h.alloc (.cells #[.string s, .int .i64 o, .string t] 66))
  have hE := heap_alloc_new w (.cells #[.string s, .int .i64 o, .string t] 66)
  have HE := Lib.hid hE
  have hne : w.heap.size ≠ b := Nat.ne_of_gt h.lt
  have HFR := Lib.hid h.fresh
  have HK := Lib.hid ((Kept.refl b w).alloc (.cells #[.string s, .int .i64 o, .string t] 66))
  generalize w.alloc (.cells #[.string s, .int .i64 o, .string t] 66) = w1 at H HE HK
  clear hE
  have c11 := H.out.c11
  have f11 := H.out.free 11
  rcases Bool.eq_false_or_eq_true x.ok with hok | hok
  · obtain rfl := H.out.errNil hok
    clear h hok
    go_enter Tryz.func48, Tryz.ntmps48
    go_wp2
    go_end0
    refine ⟨rfl, { x with err := .lex o }, ⟨vt, _, H.out.setErr _ (.lex o) ⟨_, s, t, rfl, HFR.out, (heap_setCell_other _ _ hne).trans HE.out⟩, HK.out.setCell 11 _⟩, ⟨rfl, rfl, rfl⟩, rfl, rfl, rfl⟩
  · obtain ⟨ty, v, rfl⟩ := H.out.errSome hok
    have HO := Lib.hid hok
    clear h hok
    go_enter Tryz.func48, Tryz.ntmps48
    go_wp2
    go_end0
    exact ⟨rfl, x, ⟨vt, _, H.out, HK.out⟩, Lx.Same.refl x, HO.out, rfl, rfl⟩
end
end Go.Proofs.YtaecbclonmhbcaaGreatDoor
