/- Lexer.unescapeStringToken over every token. -/
import Derived.Test.YtaecbclonmhbcaaGreatDoorR16
import Derived.Test.YtaecbclonmhbcaaGreatDoorR18
import Derived.Test.YtaecbclonmhbcaaGreatDoorR02
import Derived.Laws.MakeOwn
import Derived.LoopN
import Derived.Lib.LazyBuf
set_option linter.unusedVariables false
set_option linter.unusedSimpArgs false
namespace Go.Proofs.YtaecbclonmhbcaaGreatDoor
open Go.RowKit
theorem meth_errString (a : Option Addr) (W : World) : (method 390 191 (.pointer a) "Error").run Tryz.prog W = .ok (282, .pointer a) W := by kernel_rfl
set_option maxHeartbeats 400000 in
theorem errText_any (w : World) (k : Nat) (t : ByteArray) (h : w.cell? ⟨k, 0, none⟩ = some (.string t)) : Calls Tryz.prog 282 #[.pointer (some ⟨k, 0, none⟩)] w fun e w' => e = .returned (.string t) ∧ w = w' := by
  go_enter Tryz.func282, Tryz.ntmps282
  go_wp2
  go_ret
  exact ⟨rfl, rfl⟩
theorem unesc_fuel : ∀ (f g : Nat) (acc data : List Int), data.length < f → data.length < g → unesc f acc data = unesc g acc data
  | 0, _, _, _, h, _ => absurd h (Nat.not_lt_zero _)
  | _ + 1, 0, _, _, _, h => absurd h (Nat.not_lt_zero _)
  | f + 1, g + 1, acc, data, hf, hg => by
    simp only [unesc]
    cases h : idxOf 92 data with
    | none => rfl
    | some i =>
      simp only
      cases he : escOf (data.drop i) with
      | none => rfl
      | some p =>
        obtain ⟨r, n⟩ := p
        have hb := (escOf_bounds he).2.2
        rw [List.length_drop] at hb
        exact unesc_fuel f g _ _ (by simp; omega) (by simp; omega)
namespace Lx
def unescS (x : Lx) (l : List Int) : Lx := if idxOf 92 x.tok = none then x else { x with tok := l, cl := true }
end Lx
def UnescRel (xs acc : List Int) (k : Nat) : Prop := unesc (xs.length + 1) [] xs = unesc (xs.length - k + 1) acc (xs.drop k)
theorem UnescRel.start (xs : List Int) : UnescRel xs [] 0 := rfl
theorem UnescRel.stop {xs acc : List Int} {k : Nat} (h : UnescRel xs acc k) (hi : idxOf 92 (xs.drop k) = none) : unesc (xs.length + 1) [] xs = some (acc ++ xs.drop k) := by
  rw [h]; simp [unesc, hi]
theorem UnescRel.bad {xs acc : List Int} {k i : Nat} (h : UnescRel xs acc k) (hi : idxOf 92 (xs.drop k) = some i) (he : escOf ((xs.drop k).drop i) = none) : unesc (xs.length + 1) [] xs = none := by
  rw [h]; simp only [unesc, hi, he]
theorem UnescRel.next {xs acc : List Int} {k i n : Nat} {r : Int} (h : UnescRel xs acc k) (hi : idxOf 92 (xs.drop k) = some i) (he : escOf ((xs.drop k).drop i) = some (r, n)) :
    UnescRel xs (acc ++ (xs.drop k).take i ++ Lib.encodeRuneZ r) (k + (i + n)) ∧ 2 ≤ n ∧ k + (i + n) ≤ xs.length := by
  have hb := (escOf_bounds he).2.2
  rw [List.length_drop, List.length_drop] at hb
  refine ⟨?_, hb.1, by omega⟩
  unfold UnescRel
  rw [h]
  have e1 : unesc (xs.length - k + 1) acc (xs.drop k) = unesc (xs.length - k) (acc ++ (xs.drop k).take i ++ Lib.encodeRuneZ r) ((xs.drop k).drop (i + n)) := by
    rw [unesc, hi]
    simp only [he]
  rw [e1, List.drop_drop]
  refine unesc_fuel _ _ _ _ ?_ ?_ <;> (rw [List.length_drop]; omega)
section
variable {w w' : World} {b : Nat} {ae : Sur} {ao : Addr} {x : Lx} {vd vt ve vm : Value}
def UnescDone (w : World) (b : Nat) (ae : Sur) (ao : Addr) (x : Lx) (vd vm : Value) (e : Ending) (w' : World) : Prop :=
  match unesc (x.tok.length + 1) [] x.tok with
  | some l => e = .returned .nilIface ∧ NumDone w b ae ao (x.unescS l) vd vm w'
  | none => ∃ v, e = .returned (.iface 191 v) ∧ NumDone w b ae ao x.fail vd vm w'
set_option maxHeartbeats 1000000 in
set_option maxRecDepth 100000 in
theorem unescape_none (h : LexAt w b ae ao x vd vt ve vm) (hB : Bytes x.tok) (hi : idxOf 92 x.tok = none) :
    Calls Tryz.prog 109 #[.pointer (some ⟨b, 0, none⟩)] w fun e w' => e = .returned .nilIface ∧ w = w' := by
  have c6 := h.c6
  have htok := h.tok
  have e1 : idxI 92 x.tok = -1 := by simp [idxI, hi]
  have HI : RowKit.Hid (∀ w' : World, w' = w → Calls Tryz.prog 132 #[vt, .int .u8 92] w' fun e w'' => e = .returned (.int .i64 (-1)) ∧ w' = w'') := by
    intro w' hw'
    subst hw'
    rcases htok with ⟨h0, rfl⟩ | ⟨bt, o, cap, rfl, hc, hnb, hx⟩
    · exact indexByte_none 92 w'
    · rw [← e1]
      exact indexByte_at bt o _ cap x.tok 92 w' rfl hB (by decide) hx
  obtain ⟨p, c, hv⟩ := htok.isSlice
  subst hv
  have sn := run_eql_nil_slice (P := Tryz.prog) w 22 5 none 0 0 0 0 Tryz.underlying22
  clear h htok e1 hi
  go_enter Tryz.func109, Tryz.ntmps109
  go_wp2
  refine wp_loop_rounds 1 ?_
  rw [rounds_succ]
  go_wp2_with (go_at_call 132; refine (HI.out _ rfl).mono ?_; rintro e w1 ⟨rfl, rfl⟩)
  go_ret
  exact ⟨rfl, rfl⟩
end
theorem setCells_heap : ∀ (vs : List Value) (o : Nat) (W : World) (g : Nat) (c : Array Value) (t : TypeId), W.heap[g]? = some (.cells c t (0, 0)) → o + vs.length ≤ c.size →
    ∃ c', (W.setCells g o vs).heap[g]? = some (.cells c' t (0, 0)) ∧ c'.size = c.size ∧ (∀ j, j < o → c'[j]? = c[j]?) ∧ ∀ j, j < vs.length → c'[o + j]? = vs[j]?
  | [], o, W, g, c, t, h, _ => ⟨c, h, rfl, fun _ _ => rfl, fun j hj => absurd hj (by simp)⟩
  | v :: vs, o, W, g, c, t, h, hl => by
    rw [List.length_cons] at hl
    obtain ⟨c', h1, h2, h3, h4⟩ := setCells_heap vs (o + 1) (W.setCell ⟨g, o, none⟩ v) g _ t (heap_setCell h o v) (by simp; omega)
    refine ⟨c', h1, by simpa using h2, fun j hj => ?_, fun j hj => ?_⟩
    · rw [h3 j (by omega), Array.getElem?_setIfInBounds]
      rw [if_neg (by omega)]
    · cases j with
      | zero =>
        rw [Nat.add_zero, h3 o (by omega), Array.getElem?_setIfInBounds, if_pos rfl, if_pos (by omega)]
        rfl
      | succ j =>
        rw [List.length_cons] at hj
        have := h4 j (by omega)
        rw [show o + (j + 1) = o + 1 + j from by omega, this]
        rfl
theorem setCells_other (g : Nat) : ∀ (vs : List Value) (o : Nat) (W : World) (k : Nat), k ≠ g → (W.setCells g o vs).heap[k]? = W.heap[k]?
  | [], _, _, _, _ => rfl
  | v :: vs, o, W, k, h => by
    show ((W.setCell ⟨g, o, none⟩ v).setCells g (o + 1) vs).heap[k]? = _
    rw [setCells_other g vs (o + 1) _ k h, heap_setCell_other o v h]
theorem setCells_rest (g : Nat) : ∀ (vs : List Value) (o : Nat) (W : World), (W.setCells g o vs).os = W.os ∧ (W.setCells g o vs).tape = W.tape ∧ (W.setCells g o vs).output = W.output ∧ (W.setCells g o vs).heap.size = W.heap.size
  | [], _, _ => ⟨rfl, rfl, rfl, rfl⟩
  | v :: vs, o, W => by
    have ih := setCells_rest g vs (o + 1) (W.setCell ⟨g, o, none⟩ v)
    exact ⟨ih.1, ih.2.1, ih.2.2.1, ih.2.2.2.trans (by simp)⟩
theorem runeCells_byteVs (r : Int) : Lib.runeCells r = byteVs (Lib.encodeRuneZ r) := rfl
theorem Kept.of_grown {b : Nat} {u v : World} {r : Option Nat} (h : u.grownBy v r) (hr : ∀ k, r = some k → k = b) : Kept b u v :=
  ⟨h.os, h.tape, h.output, h.size, fun k hk hn => h.block k hk fun e => hn (hr k e.symm)⟩
def fourB : Obj := .cells #[.int .u8 0, .int .u8 0, .int .u8 0, .int .u8 0] 146
theorem esc_step {w W : World} {v : Value} {acc ls : List Int} {bt o' cap : Nat} (hg : w.grownBy W none) (hown : W.ownsRow w.heap.size 5 1 v acc.length (byteVs acc))
    (hx : ∀ j, j < ls.length → w.cell? ⟨bt, o' + j, none⟩ = some (.int .u8 (ls.getD j 0))) (r : Int) (hl : acc.length + ls.length + 4 ≤ 1000000) :
    ∃ v5 w5 v6 w6, (Builtin.append_ #[22, 22] 22 #[v, .slice (some ⟨bt, o', none⟩) ls.length cap]).run Tryz.prog ((W.alloc fourB).setCells W.heap.size 0 (Lib.runeCells r)) = .ok v5 w5 ∧
      (Builtin.append_ #[22, 22] 22 #[v5, .slice (some ⟨W.heap.size, 0, none⟩) (Lib.runeCells r).length 4]).run Tryz.prog w5 = .ok v6 w6 ∧
      (∃ p q c, v5 = .slice p q c) ∧ w.grownBy w6 none ∧ (∃ g c, v6 = .slice (some ⟨g, 0, none⟩) (acc ++ ls ++ Lib.encodeRuneZ r).length c) ∧ w6.ownsRow w.heap.size 5 1 v6 (acc ++ ls ++ Lib.encodeRuneZ r).length (byteVs (acc ++ ls ++ Lib.encodeRuneZ r)) := by
  have hrl := Lib.encodeRuneZ_length r
  have hs := hg.size
  have hlen : (Lib.runeCells r).length = (Lib.encodeRuneZ r).length := by rw [runeCells_byteVs]; simp [byteVs]
  obtain ⟨c', k1, k2, -, k4⟩ := setCells_heap (Lib.runeCells r) 0 (W.alloc fourB) W.heap.size _ 146 (heap_alloc_new W _) (by rw [hlen]; show 0 + _ ≤ 4; omega)
  obtain ⟨r1, r2, r3, r4⟩ := setCells_rest W.heap.size (Lib.runeCells r) 0 (W.alloc fourB)
  have hga : W.grownBy ((W.alloc fourB).setCells W.heap.size 0 (Lib.runeCells r)) none := ⟨r1, r2, r3, by rw [r4]; simp, fun k hk _ => by
    rw [setCells_other _ _ _ _ _ (by omega)]; exact heap_alloc_lt hk⟩
  generalize (W.alloc fourB).setCells W.heap.size 0 (Lib.runeCells r) = wC at k1 hga r4 ⊢
  have hownC := hown.kept hga (by cases hv : v.ownBlock with | none => exact .inl rfl | some g => exact .inr (by simp))
  have hsC : wC.heap.size = W.heap.size + 1 := by rw [r4]; simp
  obtain ⟨v5, w5, e5, o5, g5, b5⟩ := append_at hownC (b := bt) (o := o') (c := cap) (ls := ls) (fun j hj => hga.cell (hg.cell (hx j hj) (by simp)) (by simp)) (by omega) (by omega)
  have hvb : ∀ g, v.ownBlock = some g → w.heap.size ≤ g ∧ g < W.heap.size := fun g e => hown.lt g e
  have hneq : v.ownBlock ≠ some W.heap.size := fun e => by have := (hvb _ e).2; omega
  have k5 : w5.heap[W.heap.size]? = some (.cells c' 146 (0, 0)) := by
    rw [g5.block W.heap.size (by omega) (fun e => hneq e.symm)]; exact k1
  have hs5 := g5.size
  obtain ⟨v6, w6, e6, o6, g6, b6⟩ := append_at o5 (b := W.heap.size) (o := 0) (c := 4) (ls := Lib.encodeRuneZ r) (fun j hj => by
    rw [Nat.zero_add]
    refine cell_of_heap k5 j ?_
    have := k4 j (by rw [hlen]; exact hj)
    rw [Nat.zero_add] at this
    rw [this, runeCells_byteVs]
    simp [byteVs, List.getD, hj]) (by rw [List.length_append]; omega) (by omega)
  refine ⟨v5, w5, v6, w6, e5, by rw [hlen]; exact e6, (by obtain ⟨p, c, h⟩ := ownsRow_slice o5; exact ⟨p, _, c, h⟩), ?_, ?_, o6⟩
  · have h5 : ∀ k, k < w.heap.size → v.ownBlock ≠ some k := fun k hk e => by have := (hvb k e).1; omega
    have h6 : ∀ k, k < w.heap.size → v5.ownBlock ≠ some k := fun k hk e => by
      have := (o5.lt k e).1; omega
    refine ⟨g6.os.trans (g5.os.trans (hga.os.trans hg.os)), g6.tape.trans (g5.tape.trans (hga.tape.trans hg.tape)), g6.output.trans (g5.output.trans (hga.output.trans hg.output)), by have := g6.size; omega, fun k hk _ => ?_⟩
    rw [g6.block k (by omega) (fun e => h6 k hk e.symm), g5.block k (by omega) (fun e => h5 k hk e.symm), hga.block k (by omega) (by simp), hg.block k hk (by simp)]
  · rcases o6.2 with ⟨-, h0⟩ | ⟨g, c, cur, hv, -⟩
    · rw [List.length_append] at h0; omega
    · exact ⟨g, c, hv⟩
theorem make_row {w W : World} (hg : w.grownBy W none) (n : Nat) (hn : n ≤ 1000000) :
    ∃ W', (Instr.makeSlice 22 (.int .i64 0) (.int .i64 n)).run Tryz.prog W = .ok (.slice (some ⟨W.heap.size, 0, none⟩) 0 n) W' ∧ w.grownBy W' none ∧ W'.ownsRow w.heap.size 5 1 (.slice (some ⟨W.heap.size, 0, none⟩) 0 n) 0 [] := by
  obtain ⟨i0, hi, hz0, hz1, hz2⟩ := info_parts info5
  have hmk := run_make (P := Tryz.prog) W 22 5 i0 (.int .u8 0) Tryz.underlying22 hi hz0 .i64 .i64 0 n (by decide) (by omega) (by rw [hz2]; omega) (by omega)
  rw [hz1, Int.toNat_zero, Int.toNat_natCast, Nat.mul_one] at hmk
  refine ⟨_, hmk, ⟨hg.os, hg.tape, hg.output, Nat.le_trans hg.size (by simp), fun k hk _ => (heap_alloc_lt (Nat.lt_of_lt_of_le hk hg.size)).trans (hg.block k hk (by simp))⟩, rfl, .inr ⟨W.heap.size, n, _, rfl, hg.size, heap_alloc_new W _, Nat.zero_le _, by unfold maxLen; omega, by rw [size_madeCells, Nat.mul_one], by simp⟩⟩
theorem encode_any (W : World) (r : Int) (h0 : 0 ≤ r) (h1 : r ≤ 1114111) {L : Nat} (hL : L = (Lib.runeCells r).length) (hL4 : L ≤ 4) :
    Calls Tryz.prog 134 #[.slice (some ⟨W.heap.size, 0, none⟩) 4 4, .int .i32 r] (W.alloc fourB) fun e w' => e = .returned (.int .i64 L) ∧ w' = (W.alloc fourB).setCells W.heap.size 0 (Lib.runeCells r) := by
  rw [hL]
  refine sh_utf8_EncodeRune W.heap.size 0 4 4 r (by omega) (by omega) _ (by omega) (fun j hj => ?_) (fun j _ => ?_)
  · rw [Nat.zero_add]
    have hj4 : j < 4 := by omega
    have hh := heap_alloc_new W fourB
    match j, hj4 with
    | 0, _ => exact Option.isSome_iff_exists.2 ⟨_, cell_of_heap hh 0 rfl⟩
    | 1, _ => exact Option.isSome_iff_exists.2 ⟨_, cell_of_heap hh 1 rfl⟩
    | 2, _ => exact Option.isSome_iff_exists.2 ⟨_, cell_of_heap hh 2 rfl⟩
    | 3, _ => exact Option.isSome_iff_exists.2 ⟨_, cell_of_heap hh 3 rfl⟩
  · exact free_of_heap (heap_alloc_new W fourB) _
theorem slice4 (g L : Nat) (h1 : 1 ≤ L) (h4 : L ≤ 4) (W : World) : (Instr.sliceAt 146 (.pointer (some ⟨g, 0, none⟩)) none (some (.int .i64 L)) none).run Tryz.prog W = .ok (.slice (some ⟨g, 0, none⟩) L 4) W := by
  have h : L = 1 ∨ L = 2 ∨ L = 3 ∨ L = 4 := by omega
  rcases h with rfl | rfl | rfl | rfl <;> (show _ = _; kernel_rfl)
def lenV : Value → Nat
  | .slice _ l _ => l
  | _ => 0
def UnLoop (w : World) (xs : List Int) (bt o n : Nat) (vd vu : Value) (wr : World) : Prop :=
  ∃ (k o' c' : Nat) (acc : List Int), k ≤ n ∧ vd = .slice (some ⟨bt, o', none⟩) (n - k) c' ∧ n - k ≤ c' ∧ (n = k ∨ o' = o + k) ∧ UnescRel xs acc k ∧ acc.length ≤ 2 * k ∧ w.grownBy wr none ∧
    ((k = 0 ∧ acc = [] ∧ vu = .slice none 0 0) ∨ (0 < k ∧ (∃ g c, vu = .slice (some ⟨g, 0, none⟩) acc.length c) ∧ wr.ownsRow w.heap.size 5 1 vu acc.length (byteVs acc)))
section
variable {w w' : World} {b : Nat} {ae : Sur} {ao : Addr} {x : Lx} {vd vt ve vm : Value}
set_option maxHeartbeats 8000000 in
set_option maxRecDepth 100000 in
theorem unescape_loop (h : LexAt w b ae ao x vd vt ve vm) (hw : x.Wf) (hB : Bytes x.tok) (hl : x.tok.length ≤ 100000) (hi : idxOf 92 x.tok ≠ none) {bt o cap : Nat} (hv : vt = .slice (some ⟨bt, o, none⟩) x.tok.length cap) (hcap : x.tok.length ≤ cap)
    (hx : ∀ i, i < x.tok.length → w.cell? ⟨bt, o + i, none⟩ = some (.int .u8 (x.tok.getD i 0))) :
    Calls Tryz.prog 109 #[.pointer (some ⟨b, 0, none⟩)] w fun e w' => UnescDone w b ae ao x vd vm e w' := by
  subst hv
  have c6 := h.c6
  have H := Lib.hid h
  have HW := Lib.hid hw
  have HX := Lib.hid hx
  have HB := Lib.hid hB
  have HI := Lib.hid hi
  have hbl := h.lt
  obtain ⟨n, hn⟩ : ∃ n, n = x.tok.length := ⟨_, rfl⟩
  rw [← hn] at c6 hcap hl
  have HN := Lib.hid hn
  clear h hw hx hB hi hn
  go_enter Tryz.func109, Tryz.ntmps109
  go_wp2
  go_loopw [2, 3, 4] (fun v2 vd vu wr => v2 = .nilIface ∧ UnLoop w x.tok bt o n vd vu wr) (fun _ vd _ _ => lenV vd)
  case atStart => exact ⟨rfl, 0, o, cap, [], Nat.zero_le _, rfl, hcap, .inr rfl, UnescRel.start _, Nat.le_refl _, ⟨rfl, rfl, rfl, Nat.le_refl _, fun _ _ _ => rfl⟩, .inl ⟨rfl, rfl, rfl⟩⟩
  case round =>
    obtain ⟨rfl, k, o', c', acc, hk, rfl, hkc, ho, hrel, hacc, hg, hun⟩ := hrel
    have HO := Lib.hid ho
    have HR := Lib.hid hrel
    have HG := Lib.hid hg
    have HL := Lib.hid (H.out.grown hg (by simp))
    have hcells : RowKit.Hid (∀ i, i < n - k → wr.cell? ⟨bt, o' + i, none⟩ = some (.int .u8 ((x.tok.drop k).getD i 0))) := fun i hi => by
      rcases HO.out with h | h
      · omega
      · rw [h, getD_drop, ← HX.out (k + i) (by rw [← HN.out]; omega)]
        rw [Nat.add_assoc]
        exact hg.cell (HX.out (k + i) (by rw [← HN.out]; omega)) (by simp) |>.trans (HX.out (k + i) (by rw [← HN.out]; omega)).symm
    have hlen : RowKit.Hid ((x.tok.drop k).length = n - k) := by show _ = _; rw [List.length_drop, HN.out]
    have HIB : RowKit.Hid (∀ w' : World, w' = wr → Calls Tryz.prog 132 #[.slice (some ⟨bt, o', none⟩) (n - k) c', .int .u8 92] w' fun e w'' => e = .returned (.int .i64 (idxI 92 (x.tok.drop k))) ∧ w' = w'') :=
      fun w' hw' => by subst hw'; exact indexByte_at bt o' (n - k) c' (x.tok.drop k) 92 w' hlen.out (HB.out.drop k) (by decide) hcells.out
    have HUN := Lib.hid hun
    clear ho hrel hg hun
    cases hi : idxOf 92 (x.tok.drop k) with
    | none =>
      have e1 : idxI 92 (x.tok.drop k) = -1 := by simp [idxI, hi]
      have HS := Lib.hid (HR.out.stop hi)
      rcases HUN.out with ⟨rfl, rfl, rfl⟩ | ⟨hk0, ⟨g, cg, rfl⟩, hown⟩
      · exact absurd (by simpa using hi) HI.out
      clear hi
      obtain ⟨v5, w5, hr, ho5, hg5, -⟩ := append_at hown (b := bt) (o := o') (c := c') (ls := x.tok.drop k) (fun j hj => hcells.out j (by rw [hlen.out] at hj; exact hj)) (by rw [hlen.out]; omega) HG.out.size
      have hgw : w.grownBy w5 none := by
        have h5 : ∀ q, q < w.heap.size → (some g : Option Nat) ≠ some q := fun q hq e => by have := (hown.lt g rfl).1; have := Option.some.inj e; omega
        exact ⟨hg5.os.trans HG.out.os, hg5.tape.trans HG.out.tape, hg5.output.trans HG.out.output, Nat.le_trans HG.out.size hg5.size, fun q hq _ => (hg5.block q (Nat.lt_of_lt_of_le hq HG.out.size) (fun e => h5 q hq e.symm)).trans (HG.out.block q hq (by simp))⟩
      rw [hlen.out] at hr
      obtain ⟨p5, q5, rfl⟩ := ownsRow_slice ho5
      obtain ⟨L, hL⟩ : ∃ L, L = (acc ++ x.tok.drop k).length := ⟨_, rfl⟩
      rw [← hL] at hr ho5
      have HLn := Lib.hid hL
      clear hL
      have L5 := H.out.grown hgw (by simp)
      have f6 := L5.free 6
      have f5 := L5.free 5
      have y6 := L5.c6
      have y5 := L5.c5
      have L6 := Lib.hid L5
      have HGW := Lib.hid hgw
      have HR5 := Lib.hid hr
      have HO5 := Lib.hid ho5
      have sn := run_neq_slice_nil (P := Tryz.prog) wr 22 5 (some ⟨g, 0, none⟩) acc.length cg Tryz.underlying22
      clear hown hgw L5 hr ho5 hg5
      go_wp2_with (first
        | (go_at_call 132; refine (HIB.out _ rfl).mono ?_; rintro e w1 ⟨he, rfl⟩; rw [e1] at he; subst he)
        | (at_builtin; refine Lib.wpList_append_run_sl _ rfl (.tmp 64) (.tmp 65) 22 rfl _ _ rfl rfl HR5.out ?_))
      go_ret
      have hs := HS.out
      unfold UnescDone
      rw [hs]
      have hun : x.unescS (acc ++ x.tok.drop k) = { x with tok := acc ++ x.tok.drop k, cl := true } := by unfold Lx.unescS; rw [if_neg HI.out]
      refine ⟨rfl, ?_⟩
      rw [hun]
      have hL := HLn.out
      subst hL
      have hb6 := ownsRow_bytes HO5.out (A := ae.off b) (by rintro q (rfl | hq); exact hbl; exact H.out.held q hq)
      refine ⟨_, ve, (L6.out.setTok _ (acc ++ x.tok.drop k) (hb6.kept ((Kept.refl b w5).setCell 6 _))).setCl true, ((Kept.of_grown HGW.out (by simp)).setCell 6 _).setCell 5 _⟩
    | some i =>
      have e1 : idxI 92 (x.tok.drop k) = (i : Int) := by simp [idxI, hi]
      have hil := (idxOf_lt hi).1
      rw [hlen.out] at hil
      have HQ := Lib.hid hi
      clear hi
      have hsub : RowKit.Hid (∀ j, j < n - k - i → wr.cell? ⟨bt, o' + i + j, none⟩ = some (.int .u8 (((x.tok.drop k).drop i).getD j 0))) := fun j hj => by
        rw [getD_drop, Nat.add_assoc]; exact hcells.out (i + j) (by omega)
      have hsl : RowKit.Hid (((x.tok.drop k).drop i).length = n - k - i) := by show _ = _; rw [List.length_drop, hlen.out]
      have HD : RowKit.Hid (∀ w' : World, w' = wr → Calls Tryz.prog 133 #[.slice (some ⟨bt, o' + i, none⟩) (n - k - i) (c' - i)] w' (EscDone w' (escOf ((x.tok.drop k).drop i)))) :=
        fun w' hw' => by subst hw'; exact decode_any bt (o' + i) (n - k - i) (c' - i) _ w' hsl.out (by omega) (by omega) ((HB.out.drop k).drop i) hsub.out
      have g1 : ((i : Int) == -1) = false := beq_eq_false_iff_ne.2 (by omega)
      have hci : ¬ c' = i := by omega
      cases he : escOf ((x.tok.drop k).drop i) with
      | none =>
        have HS := Lib.hid (HR.out.bad HQ.out he)
        have HD2 : RowKit.Hid (∀ w' : World, w' = wr → Calls Tryz.prog 133 #[.slice (some ⟨bt, o' + i, none⟩) (n - k - i) (c' - i)] w' (EscBad w')) := fun w' hw' => by have := HD.out w' hw'; rw [he] at this; exact this
        have hm := fun W => meth_errString (some ⟨wr.heap.size, 0, none⟩) W
        clear he HD
        go_wp2_with (first
          | (go_at_call 132; refine (HIB.out _ rfl).mono ?_; rintro e w1 ⟨he, rfl⟩; rw [e1] at he; subst he)
          | (go_at_call 133; refine (HD2.out _ rfl).mono ?_; rintro e w1 ⟨v, ⟨t, rfl, rfl⟩, rfl⟩)
          | (go_at_call 282; refine (errText_any _ _ _ (cell_of_heap (heap_alloc_new wr _) 0 rfl)).mono ?_; rintro e w2 ⟨rfl, rfl⟩)
          | (go_at_call 117; refine (errParse_any (HL.out.alloc _) HW.out _).mono ?_; rintro e w3 ⟨rfl, ve3, g3, k3⟩))
        go_ret
        have hs := HS.out
        unfold UnescDone
        rw [hs]
        exact ⟨_, rfl, _, ve3, g3, ((Kept.of_grown HG.out (by simp)).alloc _).trans k3⟩
      | some p =>
        obtain ⟨r, n2⟩ := p
        have hb := escOf_bounds he
        rw [hsl.out] at hb
        obtain ⟨hr0, hr1, hn2, hn3⟩ := hb
        have HNX := Lib.hid (HR.out.next HQ.out he)
        have HD2 : RowKit.Hid (∀ w' : World, w' = wr → Calls Tryz.prog 133 #[.slice (some ⟨bt, o' + i, none⟩) (n - k - i) (c' - i)] w' fun e w'' => e = .returned (.tuple #[.int .i32 r, .int .i64 n2, .nilIface]) ∧ w' = w'') := fun w' hw' => by have := HD.out w' hw'; rw [he] at this; exact this
        clear he HD
        obtain ⟨L, hL⟩ : ∃ L, L = (Lib.runeCells r).length := ⟨_, rfl⟩
        have hL1 : 1 ≤ L ∧ L ≤ 4 := by rw [hL, runeCells_byteVs]; simp only [byteVs, List.length_map]; exact Lib.encodeRuneZ_length r
        obtain ⟨hLa, hLb⟩ := hL1
        have HLn := Lib.hid hL
        clear hL
        have HCUT : RowKit.Hid (((x.tok.drop k).take i).length = i) := by show _ = _; rw [List.length_take, hlen.out]; omega
        have HCB : RowKit.Hid (∀ j, j < ((x.tok.drop k).take i).length → w.cell? ⟨bt, o' + j, none⟩ = some (.int .u8 (((x.tok.drop k).take i).getD j 0))) := fun j hj => by
          rw [HCUT.out] at hj
          have h1 : ((x.tok.drop k).take i).getD j 0 = (x.tok.drop k).getD j 0 := by simp [List.getD, hj]
          rw [h1]
          rcases HO.out with h | h
          · omega
          · rw [h, getD_drop, ← HX.out (k + j) (by rw [← HN.out]; omega), Nat.add_assoc]
        have hs1 : IntKind.i64.wrap ((i : Int) + n2) = (i : Int) + n2 := IntWalk.i64_in _ (by omega)
        have HLEN : RowKit.Hid ((acc ++ (x.tok.drop k).take i ++ Lib.encodeRuneZ r).length ≤ 2 * (k + (i + n2))) := by
          show _ ≤ _
          rw [List.length_append, List.length_append, HCUT.out]
          have := (Lib.encodeRuneZ_length r).2
          omega
        rcases HUN.out with ⟨hk0, rfl, rfl⟩ | ⟨hk0, ⟨g, cg, rfl⟩, hown⟩
        · clear HUN
          have HK0 := Lib.hid hk0
          clear hk0
          obtain ⟨W, hmk, hgW, hownW⟩ := make_row HG.out n (by omega)
          obtain ⟨v5, w5, v6, w6, a5, a6, ⟨p5, q5, c5, rfl⟩, g6, ⟨gg, cg6, rfl⟩, o6⟩ := esc_step (cap := c') (acc := []) hgW hownW HCB.out r (by rw [HCUT.out]; simp only [List.length_nil]; omega)
          rw [HCUT.out] at a5
          rw [← HLn.out] at a6
          have LR := HL.out.c6
          rw [← HN.out] at LR
          have sn := run_eql_slice_nil (P := Tryz.prog) wr 22 5 none 0 0 Tryz.underlying22
          obtain ⟨M, hM⟩ : ∃ M, M = ([] ++ (x.tok.drop k).take i ++ Lib.encodeRuneZ r).length := ⟨_, rfl⟩
          rw [← hM] at a6 o6
          have HMM := Lib.hid hM
          have A5 := Lib.hid a5
          have A6 := Lib.hid a6
          have G6 := Lib.hid g6
          have O6 := Lib.hid o6
          have hs4 := slice4 W.heap.size L hLa hLb
          have HEN := Lib.hid (encode_any W r hr0 hr1 HLn.out hLb)
          clear a5 a6 g6 o6 hM hgW hownW
          by_cases hcc : c' = i + n2
          · have hcl : c' ≤ i + n2 := (by omega)
            have HCC := Lib.hid hcc
            clear hcc
            go_wp2_with (first
              | (go_at_call 132; refine (HIB.out _ rfl).mono ?_; rintro e w1 ⟨he, rfl⟩; rw [e1] at he; subst he)
              | (go_at_call 133; refine (HD2.out _ rfl).mono ?_; rintro e w1 ⟨rfl, rfl⟩)
              | (go_at_call 134; refine HEN.out.mono ?_; rintro e w1 ⟨rfl, rfl⟩)
              | (at_builtin; refine Lib.wpList_append_run_sl _ rfl (.tmp 47) (.tmp 50) 22 rfl _ _ rfl rfl A5.out ?_)
              | (at_builtin; refine Lib.wpList_append_run_sl _ rfl (.tmp 52) (.tmp 54) 22 rfl _ _ rfl rfl A6.out ?_))
            go_roundw
            case rel =>
              have hM := HMM.out
              subst hM
              exact ⟨rfl, k + (i + n2), o', c' - (i + n2), _, Nat.le_trans HNX.out.2.2 (Nat.le_of_eq HN.out.symm), by rw [Nat.sub_sub], by omega, .inl (by have := HCC.out; omega), HNX.out.1, HLEN.out, G6.out, .inr ⟨by omega, ⟨gg, cg6, rfl⟩, O6.out⟩⟩
            case measure => simp only [lenV]; omega
          · have hcc2 : ¬ i + n2 = c' := fun h => hcc h.symm
            go_wp2_with (first
              | (go_at_call 132; refine (HIB.out _ rfl).mono ?_; rintro e w1 ⟨he, rfl⟩; rw [e1] at he; subst he)
              | (go_at_call 133; refine (HD2.out _ rfl).mono ?_; rintro e w1 ⟨rfl, rfl⟩)
              | (go_at_call 134; refine HEN.out.mono ?_; rintro e w1 ⟨rfl, rfl⟩)
              | (at_builtin; refine Lib.wpList_append_run_sl _ rfl (.tmp 47) (.tmp 50) 22 rfl _ _ rfl rfl A5.out ?_)
              | (at_builtin; refine Lib.wpList_append_run_sl _ rfl (.tmp 52) (.tmp 54) 22 rfl _ _ rfl rfl A6.out ?_))
            go_roundw
            case rel =>
              have hM := HMM.out
              subst hM
              exact ⟨rfl, k + (i + n2), o' + (i + n2), c' - (i + n2), _, Nat.le_trans HNX.out.2.2 (Nat.le_of_eq HN.out.symm), by rw [Nat.sub_sub], by omega, (by rcases HO.out with h | h; exact .inl (by omega); exact .inr (by omega)), HNX.out.1, HLEN.out, G6.out, .inr ⟨by omega, ⟨gg, cg6, rfl⟩, O6.out⟩⟩
            case measure => simp only [lenV]; omega
        · clear HUN
          obtain ⟨v5, w5, v6, w6, a5, a6, ⟨p5, q5, c5, rfl⟩, g6, ⟨gg, cg6, rfl⟩, o6⟩ := esc_step (cap := c') HG.out hown HCB.out r (by rw [HCUT.out]; omega)
          rw [HCUT.out] at a5
          rw [← HLn.out] at a6
          have sn := run_eql_slice_nil (P := Tryz.prog) wr 22 5 (some ⟨g, 0, none⟩) acc.length cg Tryz.underlying22
          obtain ⟨M, hM⟩ : ∃ M, M = (acc ++ (x.tok.drop k).take i ++ Lib.encodeRuneZ r).length := ⟨_, rfl⟩
          rw [← hM] at a6 o6
          have HMM := Lib.hid hM
          have A5 := Lib.hid a5
          have A6 := Lib.hid a6
          have G6 := Lib.hid g6
          have O6 := Lib.hid o6
          have hs4 := slice4 wr.heap.size L hLa hLb
          have HEN := Lib.hid (encode_any wr r hr0 hr1 HLn.out hLb)
          clear a5 a6 g6 o6 hM hown
          by_cases hcc : c' = i + n2
          · have hcl : c' ≤ i + n2 := (by omega)
            have HCC := Lib.hid hcc
            clear hcc
            go_wp2_with (first
              | (go_at_call 132; refine (HIB.out _ rfl).mono ?_; rintro e w1 ⟨he, rfl⟩; rw [e1] at he; subst he)
              | (go_at_call 133; refine (HD2.out _ rfl).mono ?_; rintro e w1 ⟨rfl, rfl⟩)
              | (go_at_call 134; refine HEN.out.mono ?_; rintro e w1 ⟨rfl, rfl⟩)
              | (at_builtin; refine Lib.wpList_append_run_sl _ rfl (.tmp 47) (.tmp 50) 22 rfl _ _ rfl rfl A5.out ?_)
              | (at_builtin; refine Lib.wpList_append_run_sl _ rfl (.tmp 52) (.tmp 54) 22 rfl _ _ rfl rfl A6.out ?_))
            go_roundw
            case rel =>
              have hM := HMM.out
              subst hM
              exact ⟨rfl, k + (i + n2), o', c' - (i + n2), _, Nat.le_trans HNX.out.2.2 (Nat.le_of_eq HN.out.symm), by rw [Nat.sub_sub], by omega, .inl (by have := HCC.out; omega), HNX.out.1, HLEN.out, G6.out, .inr ⟨by omega, ⟨gg, cg6, rfl⟩, O6.out⟩⟩
            case measure => simp only [lenV]; omega
          · have hcc2 : ¬ i + n2 = c' := fun h => hcc h.symm
            go_wp2_with (first
              | (go_at_call 132; refine (HIB.out _ rfl).mono ?_; rintro e w1 ⟨he, rfl⟩; rw [e1] at he; subst he)
              | (go_at_call 133; refine (HD2.out _ rfl).mono ?_; rintro e w1 ⟨rfl, rfl⟩)
              | (go_at_call 134; refine HEN.out.mono ?_; rintro e w1 ⟨rfl, rfl⟩)
              | (at_builtin; refine Lib.wpList_append_run_sl _ rfl (.tmp 47) (.tmp 50) 22 rfl _ _ rfl rfl A5.out ?_)
              | (at_builtin; refine Lib.wpList_append_run_sl _ rfl (.tmp 52) (.tmp 54) 22 rfl _ _ rfl rfl A6.out ?_))
            go_roundw
            case rel =>
              have hM := HMM.out
              subst hM
              exact ⟨rfl, k + (i + n2), o' + (i + n2), c' - (i + n2), _, Nat.le_trans HNX.out.2.2 (Nat.le_of_eq HN.out.symm), by rw [Nat.sub_sub], by omega, (by rcases HO.out with h | h; exact .inl (by omega); exact .inr (by omega)), HNX.out.1, HLEN.out, G6.out, .inr ⟨by omega, ⟨gg, cg6, rfl⟩, O6.out⟩⟩
            case measure => simp only [lenV]; omega
theorem unescape_any (h : LexAt w b ae ao x vd vt ve vm) (hw : x.Wf) (hB : Bytes x.tok) (hl : x.tok.length ≤ 100000) :
    Calls Tryz.prog 109 #[.pointer (some ⟨b, 0, none⟩)] w fun e w' => UnescDone w b ae ao x vd vm e w' := by
  cases hi : idxOf 92 x.tok with
  | none =>
    refine (unescape_none h hB hi).mono ?_
    rintro e w1 ⟨rfl, rfl⟩
    have hs : unesc (x.tok.length + 1) [] x.tok = some x.tok := by simp [unesc, hi]
    unfold UnescDone
    rw [hs]
    have hu : x.unescS x.tok = x := by unfold Lx.unescS; rw [if_pos hi]
    refine ⟨rfl, ?_⟩
    rw [hu]
    exact ⟨vt, ve, h, Kept.refl b w⟩
  | some i =>
    have hi' : idxOf 92 x.tok ≠ none := by rw [hi]; exact fun e => by cases e
    rcases h.tok with ⟨h0, -⟩ | ⟨bt, o, cap, rfl, hc, hnb, hx⟩
    · rw [h0] at hi; cases hi
    · exact unescape_loop h hw hB hl hi' rfl hc hx
end
end Go.Proofs.YtaecbclonmhbcaaGreatDoor
