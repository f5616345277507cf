/- Lexer.String over the token a\n. -/
import Derived.Test.YtaecbclonmhbcaaGreatDoorTok
import Derived.Test.YtaecbclonmhbcaaGreatDoorMark
import Derived.Test.YtaecbclonmhbcaaGreatDoorIdx
import Derived.LoopN
import Derived.Laws.MakeOwn
import Derived.OwnWalk
import Derived.Test.YtaecbclonmhbcaaGreatDoorOwn
namespace Go.Proofs.YtaecbclonmhbcaaGreatDoor
open Go.RowKit

theorem Kept.of_grown {b : Nat} {u v : World} {r : Option Nat} (h : u.grownBy v r) (hr : ∀ k, r = some k → k = b) : Kept b u v :=
  ⟨h.os, h.tape, h.output, h.size, fun k hk hn => h.block k hk fun e => hn (hr k e.symm)⟩

section
variable {w w' : World} {b : Nat} {ae : Sur} {ao : Addr} {x : Lx} {vd vt ve vm : Value}

set_option maxHeartbeats 4000000 in
set_option maxRecDepth 100000 in
theorem decode_n (w : World) (bt o cp : Nat) (h1 : w.cell? ⟨bt, o + 1, none⟩ = some (.int .u8 110)) :
    Calls Tryz.prog 133 #[.slice (some ⟨bt, o, none⟩) 2 cp] w fun e w' => e = .returned (.tuple #[.int .i32 10, .int .i64 2, .nilIface]) ∧ w = w' := by
  go_enter Tryz.func133, Tryz.ntmps133
  go_wp2
  go_ret3
  exact ⟨rfl, rfl⟩

set_option maxHeartbeats 4000000 in
set_option maxRecDepth 100000 in
theorem encode_10 (w : World) (k : Nat) (v : Value) (h0 : w.cell? ⟨k, 0, none⟩ = some v) (hf : w.frozen? ⟨k, 0, none⟩ = false) :
    Calls Tryz.prog 134 #[.slice (some ⟨k, 0, none⟩) 4 4, .int .i32 10] w fun e w' => e = .returned (.int .i64 1) ∧ w.setCell ⟨k, 0, none⟩ (.int .u8 10) = w' := by
  go_enter Tryz.func134, Tryz.ntmps134
  go_wp2
  go_ret
  exact ⟨rfl, rfl⟩

theorem index_none (bt o c : Nat) (w : World) :
    Calls Tryz.prog 132 #[.slice (some ⟨bt, o, none⟩) 0 c, .int .u8 92] w fun e w' => e = .returned (.int .i64 (-1)) ∧ w = w' :=
  indexByte_at bt o 0 c [] 92 w rfl (by intro i; simp) (by decide) (fun i hi => absurd hi (Nat.not_lt_zero i))

/-- What is built while the token a\\n is unescaped. -/
theorem unesc_world {w3 : World} {bt o cap : Nat} (_hc : 3 ≤ cap) (x0 : w.cell? ⟨bt, o, none⟩ = some (.int .u8 97))
    (h3 : ((w.alloc (.cells #[.int .u8 0, .int .u8 0, .int .u8 0] 5)).alloc (.cells #[.int .u8 0, .int .u8 0, .int .u8 0, .int .u8 0] 146)).setCell ⟨w.heap.size + 1, 0, none⟩ (.int .u8 10) = w3) :
    ∃ w4 w5 w6, (Builtin.append_ #[22, 22] 22 #[.slice (some ⟨w.heap.size, 0, none⟩) 0 3, .slice (some ⟨bt, o, none⟩) 1 cap]).run Tryz.prog w3 = .ok (.slice (some ⟨w.heap.size, 0, none⟩) 1 3) w4 ∧
      (Builtin.append_ #[22, 22] 22 #[.slice (some ⟨w.heap.size, 0, none⟩) 1 3, .slice (some ⟨w.heap.size + 1, 0, none⟩) 1 4]).run Tryz.prog w4 = .ok (.slice (some ⟨w.heap.size, 0, none⟩) 2 3) w5 ∧
      (∀ ad c, (Builtin.append_ #[22, 22] 22 #[.slice (some ⟨w.heap.size, 0, none⟩) 2 3, .slice (some ad) 0 c]).run Tryz.prog w5 = .ok (.slice (some ⟨w.heap.size, 0, none⟩) 2 3) w6) ∧
      w.grownBy w6 none ∧ w6.heap[w.heap.size]? = some (.cells #[.int .u8 97, .int .u8 10, .int .u8 0] 5 (0, 0)) := by
  obtain ⟨i0, hi, hz0, hz1, hz2⟩ := info_parts info5
  have hs1 : (w.alloc (.cells #[.int .u8 0, .int .u8 0, .int .u8 0] 5)).heap.size = w.heap.size + 1 := by simp
  have hA : w3.heap[w.heap.size]? = some (.cells #[.int .u8 0, .int .u8 0, .int .u8 0] 5 (0, 0)) := by
    rw [← h3, heap_setCell_other _ _ (by omega), heap_alloc_lt (by omega)]
    exact heap_alloc_new w _
  have hB : w3.heap[w.heap.size + 1]? = some (.cells #[.int .u8 10, .int .u8 0, .int .u8 0, .int .u8 0] 146 (0, 0)) := by
    rw [← h3]
    have := heap_alloc_new (w.alloc (.cells #[.int .u8 0, .int .u8 0, .int .u8 0] 5)) (.cells #[.int .u8 0, .int .u8 0, .int .u8 0, .int .u8 0] 146)
    rw [hs1] at this
    exact heap_setCell this 0 _
  have hg3 : w.grownBy w3 none := by
    rw [← h3]
    refine ⟨rfl, rfl, rfl, by simp; omega, fun k hk _ => ?_⟩
    rw [heap_setCell_other _ _ (by omega), heap_alloc_lt (by omega), heap_alloc_lt hk]
  have hx0 := hg3.cell x0 (by simp)
  have e1 := run_append_room (P := Tryz.prog) w3 22 22 5 i0 Tryz.underlying22 hi w.heap.size 0 3 _ hA ⟨bt, o, none⟩ 1 cap [.int .u8 97] (by rw [hz1]; rfl)
    (fun j u hj => by
      match j, hj with
      | 0, hj => simp at hj; subst hj; simpa [Addr.add] using hx0) (by simp [Value.oneCell']) (by omega) (by rw [hz1]; decide)
  rw [hz1] at e1
  have hA4 : (w3.setRow w.heap.size #[.int .u8 97, .int .u8 0, .int .u8 0]).heap[w.heap.size]? = _ := setRow_heap w3 _ _ _ _ _ hA
  have hB4 : (w3.setRow w.heap.size #[.int .u8 97, .int .u8 0, .int .u8 0]).heap[w.heap.size + 1]? = _ := (setRow_other w3 w.heap.size (w.heap.size + 1) #[.int .u8 97, .int .u8 0, .int .u8 0] (by omega)).trans hB
  have e2 := run_append_room (P := Tryz.prog) (w3.setRow w.heap.size #[.int .u8 97, .int .u8 0, .int .u8 0]) 22 22 5 i0 Tryz.underlying22 hi w.heap.size 1 3 _ hA4 ⟨w.heap.size + 1, 0, none⟩ 1 4 [.int .u8 10] (by rw [hz1]; rfl)
    (fun j u hj => by
      match j, hj with
      | 0, hj => simp at hj; subst hj; exact cell_of_heap hB4 0 rfl) (by simp [Value.oneCell']) (by omega) (by rw [hz1]; decide)
  rw [hz1] at e2
  have hA5 : ((w3.setRow w.heap.size #[.int .u8 97, .int .u8 0, .int .u8 0]).setRow w.heap.size #[.int .u8 97, .int .u8 10, .int .u8 0]).heap[w.heap.size]? = _ := setRow_heap _ _ _ _ _ _ hA4
  have e3 : ∀ ad c, _ := fun ad c => run_append_room (P := Tryz.prog) ((w3.setRow w.heap.size #[.int .u8 97, .int .u8 0, .int .u8 0]).setRow w.heap.size #[.int .u8 97, .int .u8 10, .int .u8 0]) 22 22 5 i0 Tryz.underlying22 hi w.heap.size 2 3 _ hA5 ad 0 c [] (by rw [hz1]; rfl)
    (fun j u hj => by simp at hj) (by simp) (by omega) (by rw [hz1]; decide)
  rw [hz1] at e3
  refine ⟨_, _, ((w3.setRow w.heap.size #[.int .u8 97, .int .u8 0, .int .u8 0]).setRow w.heap.size #[.int .u8 97, .int .u8 10, .int .u8 0]).setRow w.heap.size #[.int .u8 97, .int .u8 10, .int .u8 0], e1, e2, fun ad c => e3 ad c, ?_, setRow_heap _ _ _ _ _ _ hA5⟩
  refine ⟨hg3.os, hg3.tape, hg3.output, by have := hg3.size; simp [World.setRow]; exact this, fun k hk _ => ?_⟩
  rw [setRow_other _ _ _ _ (by omega), setRow_other _ _ _ _ (by omega), setRow_other _ _ _ _ (by omega)]
  exact hg3.block k hk (by simp)

set_option maxHeartbeats 4000000 in
set_option maxRecDepth 100000 in
theorem unescape_an (h : LexAt w b ae ao x vd vt ve vm) (ht : x.tok = [97, 92, 110]) :
    Calls Tryz.prog 109 #[.pointer (some ⟨b, 0, none⟩)] w fun e w' => e = .returned .nilIface ∧ NumDone w b ae ao { x with tok := [97, 10], cl := true } vd vm w' := by
  have htok := h.tok
  rw [ht] at htok
  rcases htok with ⟨h0, -⟩ | ⟨bt, o, cap, rfl, hc, hnb, hx⟩
  · cases h0
  have c6 := h.c6
  have f6 := h.free 6
  have f5 := h.free 5
  have hc3 : 3 ≤ cap := hc
  have x0 : w.cell? ⟨bt, o, none⟩ = some (.int .u8 97) := hx 0 (by decide)
  have x1 : w.cell? ⟨bt, o + 1, none⟩ = some (.int .u8 92) := hx 1 (by decide)
  have x2 : w.cell? ⟨bt, o + 1 + 1, none⟩ = some (.int .u8 110) := hx 2 (by decide)
  have HX := Lib.hid hx
  have H := Lib.hid h
  have HN := Lib.hid hnb
  have hbl := h.lt
  have I1 : RowKit.Hid (idxI 92 [97, 92, 110] = 1) := by show _ = _; decide
  obtain ⟨i0, hi, hz0, hz1, hz2⟩ := info_parts info5
  have hmk := run_make (P := Tryz.prog) w 22 5 i0 (.int .u8 0) Tryz.underlying22 hi hz0 .i64 .i64 0 3 (by decide) (by decide) (by rw [hz2]; decide) (by decide)
  rw [hz1] at hmk
  have hmc : madeCells (Value.int IntKind.u8 0).cells (Int.toNat 3 * 1) = #[.int .u8 0, .int .u8 0, .int .u8 0] := by
    apply Array.ext (by simp [madeCells])
    intro i h1 h2
    rcases i with _ | _ | _ | i
    · simp [madeCells, Value.cells]
    · simp [madeCells, Value.cells, Nat.mod_one]
    · simp [madeCells, Value.cells, Nat.mod_one]
    · simp at h2; omega
  rw [hmc] at hmk
  clear hmc hi hz0 hz1 hz2
  have sn := run_eql_nil_slice (P := Tryz.prog) w 22 5 none 0 0 0 0 Tryz.underlying22
  clear h hx ht hnb
  by_cases hcap : cap = 3
  case pos =>
    have hci1 : cap ≤ 3 := by omega
    clear hcap
    go_enter Tryz.func109, Tryz.ntmps109
    go_wp2
    refine wp_loop_rounds 2 ?_
    rw [rounds_succ]
    go_wp2_with (first
      | (go_at_call 132; refine (indexByte_at bt o 3 cap [97, 92, 110] 92 _ rfl (by intro i; rcases i with _ | _ | _ | _ <;> simp) (by decide) HX.out).mono ?_; rintro e w1 ⟨he, rfl⟩; rw [I1.out] at he; subst he)
      | (go_at_call 133; refine (decode_n _ bt (o + 1) (cap - 1) x2).mono ?_; rintro e w2 ⟨rfl, rfl⟩)
      | (go_at_call 134; refine (encode_10 _ (w.heap.size + 1) (.int .u8 0) (cell_of_heap (heap_alloc2_new w _ _) 0 rfl) (free_of_heap (heap_alloc2_new w _ _) 0)).mono ?_; intro e w3 h30; obtain ⟨he, h3⟩ := h30; subst he; obtain ⟨w4, w5, w6, a1, a2, a3, hg, hh⟩ := unesc_world hc3 x0 h3; have A1 := Lib.hid a1; have A2 := Lib.hid a2; have A3 := Lib.hid a3; have HG := Lib.hid hg; have HH := Lib.hid hh; have hb6 := (hg.block b hbl (by simp)).trans H.out.heap; have y6 := cell_of_heap hb6 6 rfl; have y5 := cell_of_heap hb6 5 rfl; have z6 := free_of_heap hb6 6; have z5 := free_of_heap hb6 5; clear a1 a2 a3 hg hh hb6 h3)
      | (at_builtin; refine Lib.wpList_append_run_sl _ rfl (.tmp 47) (.tmp 50) 22 rfl _ _ rfl rfl A1.out ?_)
      | (at_builtin; refine Lib.wpList_append_run_sl _ rfl (.tmp 52) (.tmp 54) 22 rfl _ _ rfl rfl A2.out ?_))
    rw [rounds_succ]
    go_wp2_with (first
      | (go_at_call 132; refine (index_none bt o _ _).mono ?_; rintro e w1 ⟨rfl, rfl⟩)
      | (at_builtin; refine Lib.wpList_append_run_sl _ rfl (.tmp 64) (.tmp 65) 22 rfl _ _ rfl rfl (A3.out _ _) ?_))
    go_ret
    have hbs : ¬ ae.off b w.heap.size := H.out.fresh
    have G := H.out.grown HG.out (by simp)
    refine ⟨rfl, .slice (some ⟨w.heap.size, 0, none⟩) 2 3, ve, (G.setTok _ [97, 10] (.inr ⟨w.heap.size, 0, 3, rfl, by decide, ⟨hbs, ?_⟩, fun i hi => ?_⟩)).setCl true, ((Kept.of_grown HG.out (by simp)).setCell 6 _).setCell 5 _⟩
    · exact Nat.lt_of_lt_of_le (lt_heap HH.out) (by simp)
    · have hne : w.heap.size ≠ b := by omega
      have hh := (heap_setCell_other (w := w6) (b := b) 6 (.slice (some ⟨w.heap.size, 0, none⟩) 2 3) hne).trans HH.out
      match i, hi with
      | 0, _ => exact cell_of_heap hh 0 rfl
      | 1, _ => exact cell_of_heap hh 1 rfl
  case neg =>
    have hcap' : 3 ≠ cap := Ne.symm hcap
    go_enter Tryz.func109, Tryz.ntmps109
    go_wp2
    refine wp_loop_rounds 2 ?_
    rw [rounds_succ]
    go_wp2_with (first
      | (go_at_call 132; refine (indexByte_at bt o 3 cap [97, 92, 110] 92 _ rfl (by intro i; rcases i with _ | _ | _ | _ <;> simp) (by decide) HX.out).mono ?_; rintro e w1 ⟨he, rfl⟩; rw [I1.out] at he; subst he)
      | (go_at_call 133; refine (decode_n _ bt (o + 1) (cap - 1) x2).mono ?_; rintro e w2 ⟨rfl, rfl⟩)
      | (go_at_call 134; refine (encode_10 _ (w.heap.size + 1) (.int .u8 0) (cell_of_heap (heap_alloc2_new w _ _) 0 rfl) (free_of_heap (heap_alloc2_new w _ _) 0)).mono ?_; intro e w3 h30; obtain ⟨he, h3⟩ := h30; subst he; obtain ⟨w4, w5, w6, a1, a2, a3, hg, hh⟩ := unesc_world hc3 x0 h3; have A1 := Lib.hid a1; have A2 := Lib.hid a2; have A3 := Lib.hid a3; have HG := Lib.hid hg; have HH := Lib.hid hh; have hb6 := (hg.block b hbl (by simp)).trans H.out.heap; have y6 := cell_of_heap hb6 6 rfl; have y5 := cell_of_heap hb6 5 rfl; have z6 := free_of_heap hb6 6; have z5 := free_of_heap hb6 5; clear a1 a2 a3 hg hh hb6 h3)
      | (at_builtin; refine Lib.wpList_append_run_sl _ rfl (.tmp 47) (.tmp 50) 22 rfl _ _ rfl rfl A1.out ?_)
      | (at_builtin; refine Lib.wpList_append_run_sl _ rfl (.tmp 52) (.tmp 54) 22 rfl _ _ rfl rfl A2.out ?_))
    rw [rounds_succ]
    go_wp2_with (first
      | (go_at_call 132; refine (index_none bt (o + 3) (cap - 3) _).mono ?_; rintro e w1 ⟨rfl, rfl⟩)
      | (at_builtin; refine Lib.wpList_append_run_sl _ rfl (.tmp 64) (.tmp 65) 22 rfl _ _ rfl rfl (A3.out _ _) ?_))
    go_ret
    have hbs : ¬ ae.off b w.heap.size := H.out.fresh
    have G := H.out.grown HG.out (by simp)
    refine ⟨rfl, .slice (some ⟨w.heap.size, 0, none⟩) 2 3, ve, (G.setTok _ [97, 10] (.inr ⟨w.heap.size, 0, 3, rfl, by decide, ⟨hbs, ?_⟩, fun i hi => ?_⟩)).setCl true, ((Kept.of_grown HG.out (by simp)).setCell 6 _).setCell 5 _⟩
    · exact Nat.lt_of_lt_of_le (lt_heap HH.out) (by simp)
    · have hne : w.heap.size ≠ b := by omega
      have hh := (heap_setCell_other (w := w6) (b := b) 6 (.slice (some ⟨w.heap.size, 0, none⟩) 2 3) hne).trans HH.out
      match i, hi with
      | 0, _ => exact cell_of_heap hh 0 rfl
      | 1, _ => exact cell_of_heap hh 1 rfl
end
end Go.Proofs.YtaecbclonmhbcaaGreatDoor
