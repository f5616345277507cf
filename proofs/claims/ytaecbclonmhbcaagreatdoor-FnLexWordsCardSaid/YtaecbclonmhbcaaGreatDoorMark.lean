/- impl.mark and impl.text, the calls that the claims make. -/
import Derived.Test.YtaecbclonmhbcaaGreatDoorTok
import Derived.Test.YtaecbclonmhbcaaGreatDoorKind
import Derived.Test.YtaecbclonmhbcaaGreatDoorOwn
namespace Go.Proofs.YtaecbclonmhbcaaGreatDoor
open Go.RowKit

/-- One block more that the lexer has no part in. -/
def Sur.hold (s : Sur) (j : Nat) : Sur := { s with held := fun k => s.held k ∨ k = j }

theorem Sur.hold_self (s : Sur) (j : Nat) : (s.hold j).held j := Or.inr rfl

section
variable {w w' : World} {b : Nat} {ae : Sur} {ao : Addr} {x : Lx} {vd vt ve vm : Value}

/-- A step that leaves the lexer's blocks as they were. -/
theorem LexAt.grown {r : Option Nat} (h : LexAt w b ae ao x vd vt ve vm) (hg : w.grownBy w' r) (hr : ∀ k, r = some k → ae.held k ∧ k ≠ b ∧ 1 < k) : LexAt w' b ae ao x vd vt ve vm := by
  have hA : ∀ k, r = some k → ae.off b k := fun k e => .inr (hr k e).1
  refine ⟨?_, h.data.grown hg hA, h.tok.grown hg hA, ?_, h.env.grown hg ?_ ?_, h.b2, fun k a => Nat.lt_of_lt_of_le (h.held k a) hg.size⟩
  · rw [hg.block b h.lt (fun e => (hr b e.symm).2.1 rfl)]; exact h.heap
  · have he := h.err
    cases hx : x.err <;> rw [hx] at he <;> simp only [ErrAt] at he ⊢ <;> try exact he
    obtain ⟨k, s, t, hv, hn, hh⟩ := he
    exact ⟨k, s, t, hv, hn, by rw [hg.block k (lt_heap hh) (fun e => hn (hA k e.symm))]; exact hh⟩
  · intro e; have := (hr 0 e).2.2; omega
  · intro e; have := (hr 1 e).2.2; omega

theorem grownBy_setCell (w : World) (k i : Nat) (v : Value) : w.grownBy (w.setCell ⟨k, i, none⟩ v) (some k) :=
  ⟨rfl, rfl, rfl, by simp, fun j _ hj => heap_setCell_other i v fun e => hj (by rw [e])⟩
theorem LexAt.setHeld (h : LexAt w b ae ao x vd vt ve vm) {k : Nat} (hk : ae.held k) (hb : b < k) (i : Nat) (v : Value) : LexAt (w.setCell ⟨k, i, none⟩ v) b ae ao x vd vt ve vm := by
  have h2 := h.b2
  refine h.grown (grownBy_setCell w k i v) ?_
  rintro j e
  obtain rfl := Option.some.inj e
  exact ⟨hk, by omega, by omega⟩

/-- A new block is held. -/
theorem LexAt.hold (h : LexAt w b ae ao x vd vt ve vm) (o : Obj) : LexAt (w.alloc o) b (ae.hold w.heap.size) ao x vd vt ve vm := by
  have hg := World.grownBy_alloc w o none
  have hA : ∀ k, k < w.heap.size → (ae.hold w.heap.size).off b k → ae.off b k := by
    rintro k hk (e | e | e)
    · exact .inl e
    · exact .inr e
    · omega
  refine ⟨?_, (h.data.other hA).grown hg (by simp), (h.tok.other hA).grown hg (by simp), ?_, ⟨(h.env.grown hg (by simp) (by simp)).eof, (h.env.grown hg (by simp) (by simp)).other, h.env.ne⟩, h.b2, ?_⟩
  · rw [hg.block b h.lt (by simp)]; exact h.heap
  · have he := h.err
    cases hx : x.err <;> rw [hx] at he <;> simp only [ErrAt] at he ⊢ <;> try exact he
    obtain ⟨k, s, t, hv, hn, hh⟩ := he
    exact ⟨k, s, t, hv, fun a => hn (hA k (lt_heap hh) a), by rw [hg.block k (lt_heap hh) (by simp)]; exact hh⟩
  · rintro k (a | rfl)
    · have := h.held k a; have := hg.size; omega
    · simp
/-- .. and is let go. -/
theorem LexAt.less {j : Nat} (h : LexAt w b (ae.hold j) ao x vd vt ve vm) : LexAt w b ae ao x vd vt ve vm := by
  have hA : ∀ k, ae.off b k → (ae.hold j).off b k := by
    rintro k (e | e)
    · exact .inl e
    · exact .inr (.inl e)
  refine ⟨h.heap, h.data.other fun k _ => hA k, h.tok.other fun k _ => hA k, ?_, ⟨h.env.eof, h.env.other, h.env.ne⟩, h.b2, fun k a => h.held k (.inl a)⟩
  have he := h.err
  cases hx : x.err <;> rw [hx] at he <;> simp only [ErrAt] at he ⊢ <;> try exact he
  obtain ⟨k, s, t, hv, hn, hh⟩ := he
  exact ⟨k, s, t, hv, fun a => hn (hA k a), hh⟩
theorem Kept.setNew {b : Nat} {u v : World} (h : Kept b u v) {k : Nat} (hk : u.heap.size ≤ k) (i : Nat) (x : Value) : Kept b u (v.setCell ⟨k, i, none⟩ x) :=
  ⟨h.os, h.tape, h.output, Nat.le_trans h.size (by simp), fun j hj hn => (heap_setCell_other i x (by omega)).trans (h.block j hj hn)⟩
theorem Kept.of_alloc {b : Nat} {u v : World} {o : Obj} (h : Kept b (u.alloc o) v) : Kept b u v := ((Kept.refl b u).alloc o).trans h

/-- A call's value. -/
def callV (op n : Int) (s : Value) : Value := .agg #[.int .i64 op, .int .i64 n, s]
/-- What a call tells. -/
def gotV (n : Int) (s : Value) (k p : Int) : Value := .agg #[.int .i64 n, s, .int .i64 k, .int .i64 p]

theorem got_heap {w w1 : World} {b : Nat} {o : Obj} {c : Array Value} (h : Kept b ((w.alloc o).alloc (.cells c 30)) w1) (hb : b < w.heap.size) : w1.heap[w.heap.size + 1]? = some (.cells c 30 (0, 0)) := by
  have hs : (w.alloc o).heap.size = w.heap.size + 1 := by simp
  have := h.heap (heap_alloc_new (w.alloc o) (.cells c 30)) (by omega)
  rwa [hs] at this

def MarkDone (w : World) (b : Nat) (ae : Sur) (ao : Addr) (x' : Lx) (vd vm : Value) (n : Int) (e : Ending) (w' : World) : Prop :=
  e = .returned (gotV n (.slice none 0 0) 0 0) ∧ NumDone w b ae ao x' vd vm w'


set_option maxHeartbeats 2000000 in
set_option maxRecDepth 100000 in
theorem mark_delim (h : LexAt w b ae ao x vd vt ve vm) (hw : x.Wf) (hm : x.multi = false) (n : Int) (hn : 0 ≤ n ∧ n ≤ 255) (p : Option Addr) (sn sc : Nat) :
    Calls Tryz.prog 40 #[.pointer (some ⟨b, 0, none⟩), callV 1 n (.slice p sn sc)] w fun e w' => MarkDone w b ae ao (x.delimP n) vd vm (0) e w' := by
  have n1 : IntKind.u8.wrap n = n := IntWalk.u8_in _ hn
  have H := Lib.hid h
  have hbl := h.lt
  clear h
  unfold callV
  go_enter Tryz.func40, Tryz.ntmps40
  go_wp2_with (first
    | (go_at_call 87; refine (delim_any ((H.out.alloc _).hold _) hw hm n).mono ?_; rintro e w1 ⟨rfl, vt1, ve1, g1, g2⟩; have hG := got_heap g2 hbl; have y0 := cell_of_heap hG 0 rfl; have y1 := cell_of_heap hG 1 rfl; have y2 := cell_of_heap hG 2 rfl; have y3 := cell_of_heap hG 3 rfl; have z := free_of_heap hG; have z0 := z 0; have z1 := z 1; have z2 := z 2; have z3 := z 3; have G1 := Lib.hid g1; have G2 := Lib.hid g2; have GH := Lib.hid hG; clear g1 g2 z hG)
    | (go_at_call 62; refine (one_any _ _).mono ?_; rintro e w2 ⟨rfl, rfl⟩))
  (try simp only [Exit.inBlock, Exit.then])
  refine bodyPost_ret (v := gotV (0) (.slice none 0 0) 0 0) ?_ rfl ⟨rfl, vt1, ve1, ?_, ?_⟩
  · exact results_cell_row rfl _ _ (w.heap.size + 1) 30 _ (0, 0) _ rfl (heap_setCell (heap_setCell (heap_setCell (heap_setCell GH.out 0 _) 1 _) 2 _) 3 _) Tryz.underlying30 rfl (by kernel_rfl)
  · refine LexAt.less (j := w.heap.size + 1) ?_
    have hs : ∀ o : Obj, (w.alloc o).heap.size = w.heap.size + 1 := fun o => by simp
    have G := G1.out
    rw [hs] at G
    repeat refine LexAt.setHeld ?_ (Sur.hold_self _ _) (by omega) _ _
    exact G
  · repeat refine Kept.setNew ?_ (by omega) _ _
    exact Kept.of_alloc (Kept.of_alloc G2.out)

set_option maxHeartbeats 2000000 in
set_option maxRecDepth 100000 in
theorem mark_isDelim (h : LexAt w b ae ao x vd vt ve vm) (hw : x.Wf) (hm : x.multi = false) (n : Int) (hn : 0 ≤ n ∧ n ≤ 255) (p : Option Addr) (sn sc : Nat) :
    Calls Tryz.prog 40 #[.pointer (some ⟨b, 0, none⟩), callV 2 n (.slice p sn sc)] w fun e w' => MarkDone w b ae ao (x.peek) vd vm (b01 (x.isDelim n)) e w' := by
  have n1 : IntKind.u8.wrap n = n := IntWalk.u8_in _ hn
  have H := Lib.hid h
  have hbl := h.lt
  clear h
  unfold callV
  go_enter Tryz.func40, Tryz.ntmps40
  go_wp2_with (first
    | (go_at_call 54; refine (isDelim_any ((H.out.alloc _).hold _) hw hm n).mono ?_; rintro e w1 ⟨rfl, vt1, ve1, g1, g2⟩; have hG := got_heap g2 hbl; have y0 := cell_of_heap hG 0 rfl; have y1 := cell_of_heap hG 1 rfl; have y2 := cell_of_heap hG 2 rfl; have y3 := cell_of_heap hG 3 rfl; have z := free_of_heap hG; have z0 := z 0; have z1 := z 1; have z2 := z 2; have z3 := z 3; have G1 := Lib.hid g1; have G2 := Lib.hid g2; have GH := Lib.hid hG; clear g1 g2 z hG)
    | (go_at_call 62; refine (one_any _ _).mono ?_; rintro e w2 ⟨rfl, rfl⟩))
  (try simp only [Exit.inBlock, Exit.then])
  refine bodyPost_ret (v := gotV (b01 (x.isDelim n)) (.slice none 0 0) 0 0) ?_ rfl ⟨rfl, vt1, ve1, ?_, ?_⟩
  · exact results_cell_row rfl _ _ (w.heap.size + 1) 30 _ (0, 0) _ rfl (heap_setCell (heap_setCell (heap_setCell (heap_setCell (heap_setCell GH.out 0 _) 0 _) 1 _) 2 _) 3 _) Tryz.underlying30 rfl (by kernel_rfl)
  · refine LexAt.less (j := w.heap.size + 1) ?_
    have hs : ∀ o : Obj, (w.alloc o).heap.size = w.heap.size + 1 := fun o => by simp
    have G := G1.out
    rw [hs] at G
    repeat refine LexAt.setHeld ?_ (Sur.hold_self _ _) (by omega) _ _
    exact G
  · repeat refine Kept.setNew ?_ (by omega) _ _
    exact Kept.of_alloc (Kept.of_alloc G2.out)

set_option maxHeartbeats 2000000 in
set_option maxRecDepth 100000 in
theorem mark_null (h : LexAt w b ae ao x vd vt ve vm) (hw : x.Wf) (hm : x.multi = false) (n : Int) (p : Option Addr) (sn sc : Nat) :
    Calls Tryz.prog 40 #[.pointer (some ⟨b, 0, none⟩), callV 3 n (.slice p sn sc)] w fun e w' => MarkDone w b ae ao (x.null) vd vm (0) e w' := by
  have H := Lib.hid h
  have hbl := h.lt
  clear h
  unfold callV
  go_enter Tryz.func40, Tryz.ntmps40
  go_wp2_with (first
    | (go_at_call 49; refine (null_any ((H.out.alloc _).hold _) hw hm).mono ?_; rintro e w1 ⟨rfl, vt1, ve1, g1, g2⟩; have hG := got_heap g2 hbl; have y0 := cell_of_heap hG 0 rfl; have y1 := cell_of_heap hG 1 rfl; have y2 := cell_of_heap hG 2 rfl; have y3 := cell_of_heap hG 3 rfl; have z := free_of_heap hG; have z0 := z 0; have z1 := z 1; have z2 := z 2; have z3 := z 3; have G1 := Lib.hid g1; have G2 := Lib.hid g2; have GH := Lib.hid hG; clear g1 g2 z hG)
    | (go_at_call 62; refine (one_any _ _).mono ?_; rintro e w2 ⟨rfl, rfl⟩))
  (try simp only [Exit.inBlock, Exit.then])
  refine bodyPost_ret (v := gotV (0) (.slice none 0 0) 0 0) ?_ rfl ⟨rfl, vt1, ve1, ?_, ?_⟩
  · exact results_cell_row rfl _ _ (w.heap.size + 1) 30 _ (0, 0) _ rfl (heap_setCell (heap_setCell (heap_setCell (heap_setCell GH.out 0 _) 1 _) 2 _) 3 _) Tryz.underlying30 rfl (by kernel_rfl)
  · refine LexAt.less (j := w.heap.size + 1) ?_
    have hs : ∀ o : Obj, (w.alloc o).heap.size = w.heap.size + 1 := fun o => by simp
    have G := G1.out
    rw [hs] at G
    repeat refine LexAt.setHeld ?_ (Sur.hold_self _ _) (by omega) _ _
    exact G
  · repeat refine Kept.setNew ?_ (by omega) _ _
    exact Kept.of_alloc (Kept.of_alloc G2.out)

set_option maxHeartbeats 2000000 in
set_option maxRecDepth 100000 in
theorem mark_isNull (h : LexAt w b ae ao x vd vt ve vm) (hw : x.Wf) (hm : x.multi = false) (n : Int) (p : Option Addr) (sn sc : Nat) :
    Calls Tryz.prog 40 #[.pointer (some ⟨b, 0, none⟩), callV 4 n (.slice p sn sc)] w fun e w' => MarkDone w b ae ao (x.peek) vd vm (b01 x.isNull) e w' := by
  have H := Lib.hid h
  have hbl := h.lt
  clear h
  unfold callV
  go_enter Tryz.func40, Tryz.ntmps40
  go_wp2_with (first
    | (go_at_call 88; refine (isNull_any ((H.out.alloc _).hold _) hw hm).mono ?_; rintro e w1 ⟨rfl, vt1, ve1, g1, g2⟩; have hG := got_heap g2 hbl; have y0 := cell_of_heap hG 0 rfl; have y1 := cell_of_heap hG 1 rfl; have y2 := cell_of_heap hG 2 rfl; have y3 := cell_of_heap hG 3 rfl; have z := free_of_heap hG; have z0 := z 0; have z1 := z 1; have z2 := z 2; have z3 := z 3; have G1 := Lib.hid g1; have G2 := Lib.hid g2; have GH := Lib.hid hG; clear g1 g2 z hG)
    | (go_at_call 62; refine (one_any _ _).mono ?_; rintro e w2 ⟨rfl, rfl⟩))
  (try simp only [Exit.inBlock, Exit.then])
  refine bodyPost_ret (v := gotV (b01 x.isNull) (.slice none 0 0) 0 0) ?_ rfl ⟨rfl, vt1, ve1, ?_, ?_⟩
  · exact results_cell_row rfl _ _ (w.heap.size + 1) 30 _ (0, 0) _ rfl (heap_setCell (heap_setCell (heap_setCell (heap_setCell (heap_setCell GH.out 0 _) 0 _) 1 _) 2 _) 3 _) Tryz.underlying30 rfl (by kernel_rfl)
  · refine LexAt.less (j := w.heap.size + 1) ?_
    have hs : ∀ o : Obj, (w.alloc o).heap.size = w.heap.size + 1 := fun o => by simp
    have G := G1.out
    rw [hs] at G
    repeat refine LexAt.setHeld ?_ (Sur.hold_self _ _) (by omega) _ _
    exact G
  · repeat refine Kept.setNew ?_ (by omega) _ _
    exact Kept.of_alloc (Kept.of_alloc G2.out)

set_option maxHeartbeats 2000000 in
set_option maxRecDepth 100000 in
theorem mark_current (h : LexAt w b ae ao x vd vt ve vm) (hw : x.Wf) (hm : x.multi = false) (n : Int) (hcr : x.current ≤ 255) (p : Option Addr) (sn sc : Nat) :
    Calls Tryz.prog 40 #[.pointer (some ⟨b, 0, none⟩), callV 42 n (.slice p sn sc)] w fun e w' => MarkDone w b ae ao (x.peek) vd vm ((x.current : Int)) e w' := by
  have n1 : IntKind.i64.wrap (x.current : Int) = (x.current : Int) := IntWalk.i64_in _ (by omega)
  clear hcr
  have H := Lib.hid h
  have hbl := h.lt
  clear h
  unfold callV
  go_enter Tryz.func40, Tryz.ntmps40
  go_wp2_with (first
    | (go_at_call 46; refine (current_any ((H.out.alloc _).hold _) hw hm).mono ?_; rintro e w1 ⟨rfl, vt1, ve1, g1, g2⟩; have hG := got_heap g2 hbl; have y0 := cell_of_heap hG 0 rfl; have y1 := cell_of_heap hG 1 rfl; have y2 := cell_of_heap hG 2 rfl; have y3 := cell_of_heap hG 3 rfl; have z := free_of_heap hG; have z0 := z 0; have z1 := z 1; have z2 := z 2; have z3 := z 3; have G1 := Lib.hid g1; have G2 := Lib.hid g2; have GH := Lib.hid hG; clear g1 g2 z hG)
    | (go_at_call 62; refine (one_any _ _).mono ?_; rintro e w2 ⟨rfl, rfl⟩))
  (try simp only [Exit.inBlock, Exit.then])
  refine bodyPost_ret (v := gotV ((x.current : Int)) (.slice none 0 0) 0 0) ?_ rfl ⟨rfl, vt1, ve1, ?_, ?_⟩
  · exact results_cell_row rfl _ _ (w.heap.size + 1) 30 _ (0, 0) _ rfl (heap_setCell (heap_setCell (heap_setCell (heap_setCell (heap_setCell GH.out 0 _) 0 _) 1 _) 2 _) 3 _) Tryz.underlying30 rfl (by kernel_rfl)
  · refine LexAt.less (j := w.heap.size + 1) ?_
    have hs : ∀ o : Obj, (w.alloc o).heap.size = w.heap.size + 1 := fun o => by simp
    have G := G1.out
    rw [hs] at G
    repeat refine LexAt.setHeld ?_ (Sur.hold_self _ _) (by omega) _ _
    exact G
  · repeat refine Kept.setNew ?_ (by omega) _ _
    exact Kept.of_alloc (Kept.of_alloc G2.out)

set_option maxHeartbeats 2000000 in
set_option maxRecDepth 100000 in
theorem text_bool (h : LexAt w b ae ao x vd vt ve vm) (hw : x.Wf) (hm : x.multi = false) (n : Int) (p : Option Addr) (sn sc : Nat) :
    Calls Tryz.prog 37 #[.pointer (some ⟨b, 0, none⟩), callV 15 n (.slice p sn sc)] w fun e w' => MarkDone w b ae ao (x.bool) vd vm (b01 x.boolV) e w' := by
  have H := Lib.hid h
  have hbl := h.lt
  clear h
  unfold callV
  go_enter Tryz.func37, Tryz.ntmps37
  go_wp2_with (first
    | (go_at_call 50; refine (bool_any ((H.out.alloc _).hold _) hw hm).mono ?_; rintro e w1 ⟨rfl, vt1, ve1, g1, g2⟩; have hG := got_heap g2 hbl; have y0 := cell_of_heap hG 0 rfl; have y1 := cell_of_heap hG 1 rfl; have y2 := cell_of_heap hG 2 rfl; have y3 := cell_of_heap hG 3 rfl; have z := free_of_heap hG; have z0 := z 0; have z1 := z 1; have z2 := z 2; have z3 := z 3; have G1 := Lib.hid g1; have G2 := Lib.hid g2; have GH := Lib.hid hG; clear g1 g2 z hG)
    | (go_at_call 62; refine (one_any _ _).mono ?_; rintro e w2 ⟨rfl, rfl⟩))
  (try simp only [Exit.inBlock, Exit.then])
  refine bodyPost_ret (v := gotV (b01 x.boolV) (.slice none 0 0) 0 0) ?_ rfl ⟨rfl, vt1, ve1, ?_, ?_⟩
  · exact results_cell_row rfl _ _ (w.heap.size + 1) 30 _ (0, 0) _ rfl (heap_setCell (heap_setCell (heap_setCell (heap_setCell (heap_setCell GH.out 0 _) 0 _) 1 _) 2 _) 3 _) Tryz.underlying30 rfl (by kernel_rfl)
  · refine LexAt.less (j := w.heap.size + 1) ?_
    have hs : ∀ o : Obj, (w.alloc o).heap.size = w.heap.size + 1 := fun o => by simp
    have G := G1.out
    rw [hs] at G
    repeat refine LexAt.setHeld ?_ (Sur.hold_self _ _) (by omega) _ _
    exact G
  · repeat refine Kept.setNew ?_ (by omega) _ _
    exact Kept.of_alloc (Kept.of_alloc G2.out)

end
end Go.Proofs.YtaecbclonmhbcaaGreatDoor
