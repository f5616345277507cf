/- impl.call, the calls that the claims make. Printed by gen_call.py. A row of calls, as plain functions; and a call, whichever. impl.Lex over a row of calls. impl.Lex over a row of calls, each told by what it may do. -/
import Derived.Test.YtaecbclonmhbcaaGreatDoorG35
import Derived.Test.YtaecbclonmhbcaaGreatDoorG30
import Derived.Test.YtaecbclonmhbcaaGreatDoorG32
set_option linter.unusedVariables false
set_option linter.unusedSimpArgs false
/- impl.call, the calls that the claims make. Printed by gen_call.py. -/
namespace Go.Proofs.YtaecbclonmhbcaaGreatDoor
open Go.RowKit

theorem Sur.hold_old {s : Sur} {j k : Nat} (h : s.held k) : (s.hold j).held k := Or.inl h

section
variable {w w' : World} {b : Nat} {ae : Sur} {ao : Addr} {x : Lx} {vd vt ve vm : Value}

theorem LexAt.got4 (h : LexAt w b ae ao x vd vt ve vm) {k : Nat} (hk : ae.held k) (hb : b < k) (v0 v1 v2 v3 : Value) :
    LexAt ((((w.setCell ⟨k, 0, none⟩ v0).setCell ⟨k, 1, none⟩ v1).setCell ⟨k, 2, none⟩ v2).setCell ⟨k, 3, none⟩ v3) b ae ao x vd vt ve vm :=
  (((h.setHeld hk hb 0 v0).setHeld hk hb 1 v1).setHeld hk hb 2 v2).setHeld hk hb 3 v3

theorem kind_any {v : Value} {e : Er} (h : ErrAt w b ae ao v e) (he : Env w ae ao) (hn : e ≠ .other) :
    Calls Tryz.prog 35 #[v] w fun e' w' => e' = .returned (.int .i64 e.num) ∧ w = w' := by
  cases e with
  | nil => simp only [ErrAt] at h; subst h; exact kind_nil w
  | eof => simp only [ErrAt] at h; subst h; exact kind_eof w he
  | other => exact absurd rfl hn
  | lex n => obtain ⟨k, s, t, rfl, -, -⟩ := h; exact kind_lex w _ he

theorem got_heap3 {w w1 : World} {b : Nat} {o : Obj} {c c' : Array Value} (h : Kept b (((w.alloc o).alloc (.cells c 30)).alloc (.cells c' 30)) w1) (hb : b < w.heap.size) :
    w1.heap[w.heap.size + 1]? = some (.cells c 30 (0, 0)) ∧ w1.heap[w.heap.size + 1 + 1]? = some (.cells c' 30 (0, 0)) := by
  have hs : (w.alloc o).heap.size = w.heap.size + 1 := by simp
  have hs' : ((w.alloc o).alloc (.cells c 30)).heap.size = w.heap.size + 1 + 1 := by simp
  have h1 := h.heap (heap_alloc_new ((w.alloc o).alloc (.cells c 30)) (.cells c' 30)) (by omega)
  have h0 : (((w.alloc o).alloc (.cells c 30)).alloc (.cells c' 30)).heap[w.heap.size + 1]? = some (.cells c 30 (0, 0)) := by
    rw [heap_alloc_lt (by rw [hs']; omega), ← hs]
    exact heap_alloc_new (w.alloc o) (.cells c 30)
  rw [hs'] at h1
  exact ⟨h.heap h0 (by omega), h1⟩

/-- Behind the store of what the call's own function told. -/
theorem got_store {w1 w2 : World} {x' : Lx} {vt1 ve1 : Value} {o : Obj} {c : Array Value} {d0 d1 d2 d3 v0 v1 v2 v3 : Value} (g1 : LexAt w1 b ((ae.hold (w.heap.size + 1)).hold (w.heap.size + 1 + 1)) ao x' vd vt1 ve1 vm)
    (g2 : Kept b (((w.alloc o).alloc (.cells c 30)).alloc (.cells #[d0, d1, d2, d3] 30)) w1) (hb : b < w.heap.size)
    (h2 : (((w1.setCell ⟨w.heap.size + 1 + 1, 0, none⟩ v0).setCell ⟨w.heap.size + 1 + 1, 1, none⟩ v1).setCell ⟨w.heap.size + 1 + 1, 2, none⟩ v2).setCell ⟨w.heap.size + 1 + 1, 3, none⟩ v3 = w2) :
    w2.heap[w.heap.size + 1]? = some (.cells c 30 (0, 0)) ∧ w2.heap[w.heap.size + 1 + 1]? = some (.cells #[v0, v1, v2, v3] 30 (0, 0)) ∧ LexAt w2 b ((ae.hold (w.heap.size + 1)).hold (w.heap.size + 1 + 1)) ao x' vd vt1 ve1 vm ∧ Kept b w w2 := by
  obtain ⟨ha, hc⟩ := got_heap3 g2 hb
  subst h2
  refine ⟨?_, ?_, g1.got4 (Sur.hold_self _ _) (by omega) _ _ _ _, ?_⟩
  · rw [heap_setCell_other _ _ (by omega), heap_setCell_other _ _ (by omega), heap_setCell_other _ _ (by omega), heap_setCell_other _ _ (by omega)]
    exact ha
  · exact heap_setCell (heap_setCell (heap_setCell (heap_setCell hc 0 v0) 1 v1) 2 v2) 3 v3
  · repeat refine Kept.setNew ?_ (by omega) _ _
    exact Kept.of_alloc (Kept.of_alloc (Kept.of_alloc g2))

theorem MarkDone.split {x' : Lx} {n : Int} {e : Ending} (h : MarkDone w b ae ao x' vd vm n e w') : e = .returned (gotV n (.slice none 0 0) 0 0) ∧ ∃ vt' ve', LexAt w' b ae ao x' vd vt' ve' vm ∧ Kept b w w' := h

/-- What a call does to the lexer, and tells. -/
def CallDone (w : World) (b : Nat) (ae : Sur) (ao : Addr) (x' : Lx) (vd vm : Value) (n : Int) (e : Ending) (w' : World) : Prop :=
  e = .returned (gotV n (.slice none 0 0) x'.err.num x'.pos) ∧ NumDone w b ae ao x' vd vm w'


set_option maxHeartbeats 2000000 in
set_option maxRecDepth 100000 in
theorem call_delim (h : LexAt w b ae ao x vd vt ve vm) (hw : x.Wf) (hm : x.multi = false) (n : Int) (hn : 0 ≤ n ∧ n ≤ 255) (p : Option Addr) (sn sc : Nat) (hno : (x.delimP n).err ≠ .other) :
    Calls Tryz.prog 26 #[.pointer (some ⟨b, 0, none⟩), callV 1 n (.slice p sn sc)] w fun e w' => CallDone w b ae ao (x.delimP n) vd vm (0) e w' := by
  have H := Lib.hid h
  have hbl := h.lt
  clear h
  unfold callV
  have hs1 : ∀ o : Obj, (w.alloc o).heap.size = w.heap.size + 1 := fun o => by simp
  have hs2 : ∀ o o' : Obj, ((w.alloc o).alloc o').heap.size = w.heap.size + 1 + 1 := fun o o' => by simp
  have HS1 := Lib.hid hs1
  have HS2 := Lib.hid hs2
  clear hs1 hs2
  have ne1 : w.heap.size + 1 ≠ w.heap.size + 1 + 1 := by omega
  have ne2 : w.heap.size + 1 + 1 ≠ w.heap.size + 1 := by omega
  go_enter Tryz.func26, Tryz.ntmps26
  go_wp2_with (first
    | (go_at_call 40; refine (mark_delim (((H.out.alloc _).hold _).hold _) hw hm n hn p sn sc).mono ?_; intro e w1 hD0; obtain ⟨he, hD⟩ := MarkDone.split hD0; clear hD0; subst he; obtain ⟨vt1, ve1, g1, g2⟩ := hD; unfold gotV; have hG := got_heap3 g2 hbl; have u0 := cell_of_heap hG.2 0 rfl; have v0 := free_of_heap hG.2 0; have u1 := cell_of_heap hG.2 1 rfl; have v1 := free_of_heap hG.2 1; have u2 := cell_of_heap hG.2 2 rfl; have v2 := free_of_heap hG.2 2; have u3 := cell_of_heap hG.2 3 rfl; have v3 := free_of_heap hG.2 3; rw [HS1.out, HS2.out] at g1; have G1 := Lib.hid g1; have G2 := Lib.hid g2; have GH := Lib.hid hG; clear g1 g2 hG)
    | (go_at_call 28; refine (error_any (got_store G1.out G2.out hbl rfl).2.2.1).mono ?_; intro e w2 h28; obtain ⟨he, hw2⟩ := h28; subst he; have hst := got_store G1.out G2.out hbl hw2; clear hw2 G1 G2 GH; clear u0 v0; clear u1 v1; clear u2 v2; clear u3 v3; obtain ⟨hA, hB, hC, hD⟩ := hst; have y0 := cell_of_heap hA 0 rfl; have z0 := free_of_heap hA 0; have u0 := cell_of_heap hB 0 rfl; have v0 := free_of_heap hB 0; have y1 := cell_of_heap hA 1 rfl; have z1 := free_of_heap hA 1; have u1 := cell_of_heap hB 1 rfl; have v1 := free_of_heap hB 1; have y2 := cell_of_heap hA 2 rfl; have z2 := free_of_heap hA 2; have u2 := cell_of_heap hB 2 rfl; have v2 := free_of_heap hB 2; have y3 := cell_of_heap hA 3 rfl; have z3 := free_of_heap hA 3; have u3 := cell_of_heap hB 3 rfl; have v3 := free_of_heap hB 3; have HA := Lib.hid hA; have HB := Lib.hid hB; have GA := Lib.hid hC; have GK := Lib.hid hD; clear hA hB hC hD)
    | (go_at_call 35; refine (kind_any GA.out.err GA.out.env hno).mono ?_; rintro e w3 ⟨h3, rfl⟩; obtain ⟨q, hq⟩ : ∃ q : Int, q = (x.delimP n).err.num := ⟨_, rfl⟩; rw [← hq] at h3; subst h3; have HQ := Lib.hid hq; clear hq)
    | (go_at_call 34; refine (getPos_any GA.out).mono ?_; rintro e w4 ⟨h4, rfl⟩; obtain ⟨r, hr⟩ : ∃ r : Int, r = (x.delimP n).pos := ⟨_, rfl⟩; rw [← hr] at h4; subst h4; have HR := Lib.hid hr; clear hr))
  (try simp only [Exit.inBlock, Exit.then])
  refine bodyPost_ret (v := gotV (0) (.slice none 0 0) q r) ?_ rfl ⟨by rw [HQ.out, HR.out], vt1, ve1, ?_, ?_⟩
  · exact results_cell_row rfl _ _ (w.heap.size + 1) 30 _ (0, 0) _ rfl (heap_setCell (heap_setCell (heap_setCell (heap_setCell ((heap_setCell_other 3 _ ne1).trans ((heap_setCell_other 2 _ ne1).trans HA.out)) 0 _) 1 _) 2 _) 3 _) Tryz.underlying30 rfl (by kernel_rfl)
  · refine LexAt.less (j := w.heap.size + 1) (LexAt.less (j := w.heap.size + 1 + 1) ?_)
    iterate 4 refine LexAt.setHeld ?_ (Sur.hold_old (Sur.hold_self _ _)) (by omega) _ _
    iterate 2 refine LexAt.setHeld ?_ (Sur.hold_self _ _) (by omega) _ _
    exact GA.out
  · repeat refine Kept.setNew ?_ (by omega) _ _
    exact GK.out

set_option maxHeartbeats 2000000 in
set_option maxRecDepth 100000 in
theorem call_isDelim (h : LexAt w b ae ao x vd vt ve vm) (hw : x.Wf) (hm : x.multi = false) (n : Int) (hn : 0 ≤ n ∧ n ≤ 255) (p : Option Addr) (sn sc : Nat) (hno : (x.peek).err ≠ .other) :
    Calls Tryz.prog 26 #[.pointer (some ⟨b, 0, none⟩), callV 2 n (.slice p sn sc)] w fun e w' => CallDone w b ae ao (x.peek) vd vm (b01 (x.isDelim n)) e w' := by
  have H := Lib.hid h
  have hbl := h.lt
  clear h
  unfold callV
  have hs1 : ∀ o : Obj, (w.alloc o).heap.size = w.heap.size + 1 := fun o => by simp
  have hs2 : ∀ o o' : Obj, ((w.alloc o).alloc o').heap.size = w.heap.size + 1 + 1 := fun o o' => by simp
  have HS1 := Lib.hid hs1
  have HS2 := Lib.hid hs2
  clear hs1 hs2
  have ne1 : w.heap.size + 1 ≠ w.heap.size + 1 + 1 := by omega
  have ne2 : w.heap.size + 1 + 1 ≠ w.heap.size + 1 := by omega
  go_enter Tryz.func26, Tryz.ntmps26
  go_wp2_with (first
    | (go_at_call 40; refine (mark_isDelim (((H.out.alloc _).hold _).hold _) hw hm n hn p sn sc).mono ?_; intro e w1 hD0; obtain ⟨he, hD⟩ := MarkDone.split hD0; clear hD0; subst he; obtain ⟨vt1, ve1, g1, g2⟩ := hD; unfold gotV; have hG := got_heap3 g2 hbl; have u0 := cell_of_heap hG.2 0 rfl; have v0 := free_of_heap hG.2 0; have u1 := cell_of_heap hG.2 1 rfl; have v1 := free_of_heap hG.2 1; have u2 := cell_of_heap hG.2 2 rfl; have v2 := free_of_heap hG.2 2; have u3 := cell_of_heap hG.2 3 rfl; have v3 := free_of_heap hG.2 3; rw [HS1.out, HS2.out] at g1; have G1 := Lib.hid g1; have G2 := Lib.hid g2; have GH := Lib.hid hG; clear g1 g2 hG)
    | (go_at_call 28; refine (error_any (got_store G1.out G2.out hbl rfl).2.2.1).mono ?_; intro e w2 h28; obtain ⟨he, hw2⟩ := h28; subst he; have hst := got_store G1.out G2.out hbl hw2; clear hw2 G1 G2 GH; clear u0 v0; clear u1 v1; clear u2 v2; clear u3 v3; obtain ⟨hA, hB, hC, hD⟩ := hst; have y0 := cell_of_heap hA 0 rfl; have z0 := free_of_heap hA 0; have u0 := cell_of_heap hB 0 rfl; have v0 := free_of_heap hB 0; have y1 := cell_of_heap hA 1 rfl; have z1 := free_of_heap hA 1; have u1 := cell_of_heap hB 1 rfl; have v1 := free_of_heap hB 1; have y2 := cell_of_heap hA 2 rfl; have z2 := free_of_heap hA 2; have u2 := cell_of_heap hB 2 rfl; have v2 := free_of_heap hB 2; have y3 := cell_of_heap hA 3 rfl; have z3 := free_of_heap hA 3; have u3 := cell_of_heap hB 3 rfl; have v3 := free_of_heap hB 3; have HA := Lib.hid hA; have HB := Lib.hid hB; have GA := Lib.hid hC; have GK := Lib.hid hD; clear hA hB hC hD)
    | (go_at_call 35; refine (kind_any GA.out.err GA.out.env hno).mono ?_; rintro e w3 ⟨h3, rfl⟩; obtain ⟨q, hq⟩ : ∃ q : Int, q = (x.peek).err.num := ⟨_, rfl⟩; rw [← hq] at h3; subst h3; have HQ := Lib.hid hq; clear hq)
    | (go_at_call 34; refine (getPos_any GA.out).mono ?_; rintro e w4 ⟨h4, rfl⟩; obtain ⟨r, hr⟩ : ∃ r : Int, r = (x.peek).pos := ⟨_, rfl⟩; rw [← hr] at h4; subst h4; have HR := Lib.hid hr; clear hr))
  (try simp only [Exit.inBlock, Exit.then])
  refine bodyPost_ret (v := gotV (b01 (x.isDelim n)) (.slice none 0 0) q r) ?_ rfl ⟨by rw [HQ.out, HR.out], vt1, ve1, ?_, ?_⟩
  · exact results_cell_row rfl _ _ (w.heap.size + 1) 30 _ (0, 0) _ rfl (heap_setCell (heap_setCell (heap_setCell (heap_setCell ((heap_setCell_other 3 _ ne1).trans ((heap_setCell_other 2 _ ne1).trans HA.out)) 0 _) 1 _) 2 _) 3 _) Tryz.underlying30 rfl (by kernel_rfl)
  · refine LexAt.less (j := w.heap.size + 1) (LexAt.less (j := w.heap.size + 1 + 1) ?_)
    iterate 4 refine LexAt.setHeld ?_ (Sur.hold_old (Sur.hold_self _ _)) (by omega) _ _
    iterate 2 refine LexAt.setHeld ?_ (Sur.hold_self _ _) (by omega) _ _
    exact GA.out
  · repeat refine Kept.setNew ?_ (by omega) _ _
    exact GK.out

set_option maxHeartbeats 2000000 in
set_option maxRecDepth 100000 in
theorem call_null (h : LexAt w b ae ao x vd vt ve vm) (hw : x.Wf) (hm : x.multi = false) (n : Int) (p : Option Addr) (sn sc : Nat) (hno : (x.null).err ≠ .other) :
    Calls Tryz.prog 26 #[.pointer (some ⟨b, 0, none⟩), callV 3 n (.slice p sn sc)] w fun e w' => CallDone w b ae ao (x.null) vd vm (0) e w' := by
  have H := Lib.hid h
  have hbl := h.lt
  clear h
  unfold callV
  have hs1 : ∀ o : Obj, (w.alloc o).heap.size = w.heap.size + 1 := fun o => by simp
  have hs2 : ∀ o o' : Obj, ((w.alloc o).alloc o').heap.size = w.heap.size + 1 + 1 := fun o o' => by simp
  have HS1 := Lib.hid hs1
  have HS2 := Lib.hid hs2
  clear hs1 hs2
  have ne1 : w.heap.size + 1 ≠ w.heap.size + 1 + 1 := by omega
  have ne2 : w.heap.size + 1 + 1 ≠ w.heap.size + 1 := by omega
  go_enter Tryz.func26, Tryz.ntmps26
  go_wp2_with (first
    | (go_at_call 40; refine (mark_null (((H.out.alloc _).hold _).hold _) hw hm n p sn sc).mono ?_; intro e w1 hD0; obtain ⟨he, hD⟩ := MarkDone.split hD0; clear hD0; subst he; obtain ⟨vt1, ve1, g1, g2⟩ := hD; unfold gotV; have hG := got_heap3 g2 hbl; have u0 := cell_of_heap hG.2 0 rfl; have v0 := free_of_heap hG.2 0; have u1 := cell_of_heap hG.2 1 rfl; have v1 := free_of_heap hG.2 1; have u2 := cell_of_heap hG.2 2 rfl; have v2 := free_of_heap hG.2 2; have u3 := cell_of_heap hG.2 3 rfl; have v3 := free_of_heap hG.2 3; rw [HS1.out, HS2.out] at g1; have G1 := Lib.hid g1; have G2 := Lib.hid g2; have GH := Lib.hid hG; clear g1 g2 hG)
    | (go_at_call 28; refine (error_any (got_store G1.out G2.out hbl rfl).2.2.1).mono ?_; intro e w2 h28; obtain ⟨he, hw2⟩ := h28; subst he; have hst := got_store G1.out G2.out hbl hw2; clear hw2 G1 G2 GH; clear u0 v0; clear u1 v1; clear u2 v2; clear u3 v3; obtain ⟨hA, hB, hC, hD⟩ := hst; have y0 := cell_of_heap hA 0 rfl; have z0 := free_of_heap hA 0; have u0 := cell_of_heap hB 0 rfl; have v0 := free_of_heap hB 0; have y1 := cell_of_heap hA 1 rfl; have z1 := free_of_heap hA 1; have u1 := cell_of_heap hB 1 rfl; have v1 := free_of_heap hB 1; have y2 := cell_of_heap hA 2 rfl; have z2 := free_of_heap hA 2; have u2 := cell_of_heap hB 2 rfl; have v2 := free_of_heap hB 2; have y3 := cell_of_heap hA 3 rfl; have z3 := free_of_heap hA 3; have u3 := cell_of_heap hB 3 rfl; have v3 := free_of_heap hB 3; have HA := Lib.hid hA; have HB := Lib.hid hB; have GA := Lib.hid hC; have GK := Lib.hid hD; clear hA hB hC hD)
    | (go_at_call 35; refine (kind_any GA.out.err GA.out.env hno).mono ?_; rintro e w3 ⟨h3, rfl⟩; obtain ⟨q, hq⟩ : ∃ q : Int, q = (x.null).err.num := ⟨_, rfl⟩; rw [← hq] at h3; subst h3; have HQ := Lib.hid hq; clear hq)
    | (go_at_call 34; refine (getPos_any GA.out).mono ?_; rintro e w4 ⟨h4, rfl⟩; obtain ⟨r, hr⟩ : ∃ r : Int, r = (x.null).pos := ⟨_, rfl⟩; rw [← hr] at h4; subst h4; have HR := Lib.hid hr; clear hr))
  (try simp only [Exit.inBlock, Exit.then])
  refine bodyPost_ret (v := gotV (0) (.slice none 0 0) q r) ?_ rfl ⟨by rw [HQ.out, HR.out], vt1, ve1, ?_, ?_⟩
  · exact results_cell_row rfl _ _ (w.heap.size + 1) 30 _ (0, 0) _ rfl (heap_setCell (heap_setCell (heap_setCell (heap_setCell ((heap_setCell_other 3 _ ne1).trans ((heap_setCell_other 2 _ ne1).trans HA.out)) 0 _) 1 _) 2 _) 3 _) Tryz.underlying30 rfl (by kernel_rfl)
  · refine LexAt.less (j := w.heap.size + 1) (LexAt.less (j := w.heap.size + 1 + 1) ?_)
    iterate 4 refine LexAt.setHeld ?_ (Sur.hold_old (Sur.hold_self _ _)) (by omega) _ _
    iterate 2 refine LexAt.setHeld ?_ (Sur.hold_self _ _) (by omega) _ _
    exact GA.out
  · repeat refine Kept.setNew ?_ (by omega) _ _
    exact GK.out

set_option maxHeartbeats 2000000 in
set_option maxRecDepth 100000 in
theorem call_isNull (h : LexAt w b ae ao x vd vt ve vm) (hw : x.Wf) (hm : x.multi = false) (n : Int) (p : Option Addr) (sn sc : Nat) (hno : (x.peek).err ≠ .other) :
    Calls Tryz.prog 26 #[.pointer (some ⟨b, 0, none⟩), callV 4 n (.slice p sn sc)] w fun e w' => CallDone w b ae ao (x.peek) vd vm (b01 x.isNull) e w' := by
  have H := Lib.hid h
  have hbl := h.lt
  clear h
  unfold callV
  have hs1 : ∀ o : Obj, (w.alloc o).heap.size = w.heap.size + 1 := fun o => by simp
  have hs2 : ∀ o o' : Obj, ((w.alloc o).alloc o').heap.size = w.heap.size + 1 + 1 := fun o o' => by simp
  have HS1 := Lib.hid hs1
  have HS2 := Lib.hid hs2
  clear hs1 hs2
  have ne1 : w.heap.size + 1 ≠ w.heap.size + 1 + 1 := by omega
  have ne2 : w.heap.size + 1 + 1 ≠ w.heap.size + 1 := by omega
  go_enter Tryz.func26, Tryz.ntmps26
  go_wp2_with (first
    | (go_at_call 40; refine (mark_isNull (((H.out.alloc _).hold _).hold _) hw hm n p sn sc).mono ?_; intro e w1 hD0; obtain ⟨he, hD⟩ := MarkDone.split hD0; clear hD0; subst he; obtain ⟨vt1, ve1, g1, g2⟩ := hD; unfold gotV; have hG := got_heap3 g2 hbl; have u0 := cell_of_heap hG.2 0 rfl; have v0 := free_of_heap hG.2 0; have u1 := cell_of_heap hG.2 1 rfl; have v1 := free_of_heap hG.2 1; have u2 := cell_of_heap hG.2 2 rfl; have v2 := free_of_heap hG.2 2; have u3 := cell_of_heap hG.2 3 rfl; have v3 := free_of_heap hG.2 3; rw [HS1.out, HS2.out] at g1; have G1 := Lib.hid g1; have G2 := Lib.hid g2; have GH := Lib.hid hG; clear g1 g2 hG)
    | (go_at_call 28; refine (error_any (got_store G1.out G2.out hbl rfl).2.2.1).mono ?_; intro e w2 h28; obtain ⟨he, hw2⟩ := h28; subst he; have hst := got_store G1.out G2.out hbl hw2; clear hw2 G1 G2 GH; clear u0 v0; clear u1 v1; clear u2 v2; clear u3 v3; obtain ⟨hA, hB, hC, hD⟩ := hst; have y0 := cell_of_heap hA 0 rfl; have z0 := free_of_heap hA 0; have u0 := cell_of_heap hB 0 rfl; have v0 := free_of_heap hB 0; have y1 := cell_of_heap hA 1 rfl; have z1 := free_of_heap hA 1; have u1 := cell_of_heap hB 1 rfl; have v1 := free_of_heap hB 1; have y2 := cell_of_heap hA 2 rfl; have z2 := free_of_heap hA 2; have u2 := cell_of_heap hB 2 rfl; have v2 := free_of_heap hB 2; have y3 := cell_of_heap hA 3 rfl; have z3 := free_of_heap hA 3; have u3 := cell_of_heap hB 3 rfl; have v3 := free_of_heap hB 3; have HA := Lib.hid hA; have HB := Lib.hid hB; have GA := Lib.hid hC; have GK := Lib.hid hD; clear hA hB hC hD)
    | (go_at_call 35; refine (kind_any GA.out.err GA.out.env hno).mono ?_; rintro e w3 ⟨h3, rfl⟩; obtain ⟨q, hq⟩ : ∃ q : Int, q = (x.peek).err.num := ⟨_, rfl⟩; rw [← hq] at h3; subst h3; have HQ := Lib.hid hq; clear hq)
    | (go_at_call 34; refine (getPos_any GA.out).mono ?_; rintro e w4 ⟨h4, rfl⟩; obtain ⟨r, hr⟩ : ∃ r : Int, r = (x.peek).pos := ⟨_, rfl⟩; rw [← hr] at h4; subst h4; have HR := Lib.hid hr; clear hr))
  (try simp only [Exit.inBlock, Exit.then])
  refine bodyPost_ret (v := gotV (b01 x.isNull) (.slice none 0 0) q r) ?_ rfl ⟨by rw [HQ.out, HR.out], vt1, ve1, ?_, ?_⟩
  · exact results_cell_row rfl _ _ (w.heap.size + 1) 30 _ (0, 0) _ rfl (heap_setCell (heap_setCell (heap_setCell (heap_setCell ((heap_setCell_other 3 _ ne1).trans ((heap_setCell_other 2 _ ne1).trans HA.out)) 0 _) 1 _) 2 _) 3 _) Tryz.underlying30 rfl (by kernel_rfl)
  · refine LexAt.less (j := w.heap.size + 1) (LexAt.less (j := w.heap.size + 1 + 1) ?_)
    iterate 4 refine LexAt.setHeld ?_ (Sur.hold_old (Sur.hold_self _ _)) (by omega) _ _
    iterate 2 refine LexAt.setHeld ?_ (Sur.hold_self _ _) (by omega) _ _
    exact GA.out
  · repeat refine Kept.setNew ?_ (by omega) _ _
    exact GK.out

set_option maxHeartbeats 2000000 in
set_option maxRecDepth 100000 in
theorem call_current (h : LexAt w b ae ao x vd vt ve vm) (hw : x.Wf) (hm : x.multi = false) (n : Int) (hcr : x.current ≤ 255) (p : Option Addr) (sn sc : Nat) (hno : (x.peek).err ≠ .other) :
    Calls Tryz.prog 26 #[.pointer (some ⟨b, 0, none⟩), callV 42 n (.slice p sn sc)] w fun e w' => CallDone w b ae ao (x.peek) vd vm ((x.current : Int)) e w' := by
  have H := Lib.hid h
  have hbl := h.lt
  clear h
  unfold callV
  have hs1 : ∀ o : Obj, (w.alloc o).heap.size = w.heap.size + 1 := fun o => by simp
  have hs2 : ∀ o o' : Obj, ((w.alloc o).alloc o').heap.size = w.heap.size + 1 + 1 := fun o o' => by simp
  have HS1 := Lib.hid hs1
  have HS2 := Lib.hid hs2
  clear hs1 hs2
  have ne1 : w.heap.size + 1 ≠ w.heap.size + 1 + 1 := by omega
  have ne2 : w.heap.size + 1 + 1 ≠ w.heap.size + 1 := by omega
  go_enter Tryz.func26, Tryz.ntmps26
  go_wp2_with (first
    | (go_at_call 40; refine (mark_current (((H.out.alloc _).hold _).hold _) hw hm n hcr p sn sc).mono ?_; intro e w1 hD0; obtain ⟨he, hD⟩ := MarkDone.split hD0; clear hD0; subst he; obtain ⟨vt1, ve1, g1, g2⟩ := hD; unfold gotV; have hG := got_heap3 g2 hbl; have u0 := cell_of_heap hG.2 0 rfl; have v0 := free_of_heap hG.2 0; have u1 := cell_of_heap hG.2 1 rfl; have v1 := free_of_heap hG.2 1; have u2 := cell_of_heap hG.2 2 rfl; have v2 := free_of_heap hG.2 2; have u3 := cell_of_heap hG.2 3 rfl; have v3 := free_of_heap hG.2 3; rw [HS1.out, HS2.out] at g1; have G1 := Lib.hid g1; have G2 := Lib.hid g2; have GH := Lib.hid hG; clear g1 g2 hG)
    | (go_at_call 28; refine (error_any (got_store G1.out G2.out hbl rfl).2.2.1).mono ?_; intro e w2 h28; obtain ⟨he, hw2⟩ := h28; subst he; have hst := got_store G1.out G2.out hbl hw2; clear hw2 G1 G2 GH; clear u0 v0; clear u1 v1; clear u2 v2; clear u3 v3; obtain ⟨hA, hB, hC, hD⟩ := hst; have y0 := cell_of_heap hA 0 rfl; have z0 := free_of_heap hA 0; have u0 := cell_of_heap hB 0 rfl; have v0 := free_of_heap hB 0; have y1 := cell_of_heap hA 1 rfl; have z1 := free_of_heap hA 1; have u1 := cell_of_heap hB 1 rfl; have v1 := free_of_heap hB 1; have y2 := cell_of_heap hA 2 rfl; have z2 := free_of_heap hA 2; have u2 := cell_of_heap hB 2 rfl; have v2 := free_of_heap hB 2; have y3 := cell_of_heap hA 3 rfl; have z3 := free_of_heap hA 3; have u3 := cell_of_heap hB 3 rfl; have v3 := free_of_heap hB 3; have HA := Lib.hid hA; have HB := Lib.hid hB; have GA := Lib.hid hC; have GK := Lib.hid hD; clear hA hB hC hD)
    | (go_at_call 35; refine (kind_any GA.out.err GA.out.env hno).mono ?_; rintro e w3 ⟨h3, rfl⟩; obtain ⟨q, hq⟩ : ∃ q : Int, q = (x.peek).err.num := ⟨_, rfl⟩; rw [← hq] at h3; subst h3; have HQ := Lib.hid hq; clear hq)
    | (go_at_call 34; refine (getPos_any GA.out).mono ?_; rintro e w4 ⟨h4, rfl⟩; obtain ⟨r, hr⟩ : ∃ r : Int, r = (x.peek).pos := ⟨_, rfl⟩; rw [← hr] at h4; subst h4; have HR := Lib.hid hr; clear hr))
  (try simp only [Exit.inBlock, Exit.then])
  refine bodyPost_ret (v := gotV ((x.current : Int)) (.slice none 0 0) q r) ?_ rfl ⟨by rw [HQ.out, HR.out], vt1, ve1, ?_, ?_⟩
  · exact results_cell_row rfl _ _ (w.heap.size + 1) 30 _ (0, 0) _ rfl (heap_setCell (heap_setCell (heap_setCell (heap_setCell ((heap_setCell_other 3 _ ne1).trans ((heap_setCell_other 2 _ ne1).trans HA.out)) 0 _) 1 _) 2 _) 3 _) Tryz.underlying30 rfl (by kernel_rfl)
  · refine LexAt.less (j := w.heap.size + 1) (LexAt.less (j := w.heap.size + 1 + 1) ?_)
    iterate 4 refine LexAt.setHeld ?_ (Sur.hold_old (Sur.hold_self _ _)) (by omega) _ _
    iterate 2 refine LexAt.setHeld ?_ (Sur.hold_self _ _) (by omega) _ _
    exact GA.out
  · repeat refine Kept.setNew ?_ (by omega) _ _
    exact GK.out

set_option maxHeartbeats 2000000 in
set_option maxRecDepth 100000 in
theorem call_bool (h : LexAt w b ae ao x vd vt ve vm) (hw : x.Wf) (hm : x.multi = false) (n : Int) (p : Option Addr) (sn sc : Nat) (hno : (x.bool).err ≠ .other) :
    Calls Tryz.prog 26 #[.pointer (some ⟨b, 0, none⟩), callV 15 n (.slice p sn sc)] w fun e w' => CallDone w b ae ao (x.bool) vd vm (b01 x.boolV) e w' := by
  have H := Lib.hid h
  have hbl := h.lt
  clear h
  unfold callV
  have hs1 : ∀ o : Obj, (w.alloc o).heap.size = w.heap.size + 1 := fun o => by simp
  have hs2 : ∀ o o' : Obj, ((w.alloc o).alloc o').heap.size = w.heap.size + 1 + 1 := fun o o' => by simp
  have HS1 := Lib.hid hs1
  have HS2 := Lib.hid hs2
  clear hs1 hs2
  have ne1 : w.heap.size + 1 ≠ w.heap.size + 1 + 1 := by omega
  have ne2 : w.heap.size + 1 + 1 ≠ w.heap.size + 1 := by omega
  go_enter Tryz.func26, Tryz.ntmps26
  go_wp2_with (first
    | (go_at_call 37; refine (text_bool (((H.out.alloc _).hold _).hold _) hw hm n p sn sc).mono ?_; intro e w1 hD0; obtain ⟨he, hD⟩ := MarkDone.split hD0; clear hD0; subst he; obtain ⟨vt1, ve1, g1, g2⟩ := hD; unfold gotV; have hG := got_heap3 g2 hbl; have u0 := cell_of_heap hG.2 0 rfl; have v0 := free_of_heap hG.2 0; have u1 := cell_of_heap hG.2 1 rfl; have v1 := free_of_heap hG.2 1; have u2 := cell_of_heap hG.2 2 rfl; have v2 := free_of_heap hG.2 2; have u3 := cell_of_heap hG.2 3 rfl; have v3 := free_of_heap hG.2 3; rw [HS1.out, HS2.out] at g1; have G1 := Lib.hid g1; have G2 := Lib.hid g2; have GH := Lib.hid hG; clear g1 g2 hG)
    | (go_at_call 28; refine (error_any (got_store G1.out G2.out hbl rfl).2.2.1).mono ?_; intro e w2 h28; obtain ⟨he, hw2⟩ := h28; subst he; have hst := got_store G1.out G2.out hbl hw2; clear hw2 G1 G2 GH; clear u0 v0; clear u1 v1; clear u2 v2; clear u3 v3; obtain ⟨hA, hB, hC, hD⟩ := hst; have y0 := cell_of_heap hA 0 rfl; have z0 := free_of_heap hA 0; have u0 := cell_of_heap hB 0 rfl; have v0 := free_of_heap hB 0; have y1 := cell_of_heap hA 1 rfl; have z1 := free_of_heap hA 1; have u1 := cell_of_heap hB 1 rfl; have v1 := free_of_heap hB 1; have y2 := cell_of_heap hA 2 rfl; have z2 := free_of_heap hA 2; have u2 := cell_of_heap hB 2 rfl; have v2 := free_of_heap hB 2; have y3 := cell_of_heap hA 3 rfl; have z3 := free_of_heap hA 3; have u3 := cell_of_heap hB 3 rfl; have v3 := free_of_heap hB 3; have HA := Lib.hid hA; have HB := Lib.hid hB; have GA := Lib.hid hC; have GK := Lib.hid hD; clear hA hB hC hD)
    | (go_at_call 35; refine (kind_any GA.out.err GA.out.env hno).mono ?_; rintro e w3 ⟨h3, rfl⟩; obtain ⟨q, hq⟩ : ∃ q : Int, q = (x.bool).err.num := ⟨_, rfl⟩; rw [← hq] at h3; subst h3; have HQ := Lib.hid hq; clear hq)
    | (go_at_call 34; refine (getPos_any GA.out).mono ?_; rintro e w4 ⟨h4, rfl⟩; obtain ⟨r, hr⟩ : ∃ r : Int, r = (x.bool).pos := ⟨_, rfl⟩; rw [← hr] at h4; subst h4; have HR := Lib.hid hr; clear hr))
  (try simp only [Exit.inBlock, Exit.then])
  refine bodyPost_ret (v := gotV (b01 x.boolV) (.slice none 0 0) q r) ?_ rfl ⟨by rw [HQ.out, HR.out], vt1, ve1, ?_, ?_⟩
  · exact results_cell_row rfl _ _ (w.heap.size + 1) 30 _ (0, 0) _ rfl (heap_setCell (heap_setCell (heap_setCell (heap_setCell ((heap_setCell_other 3 _ ne1).trans ((heap_setCell_other 2 _ ne1).trans HA.out)) 0 _) 1 _) 2 _) 3 _) Tryz.underlying30 rfl (by kernel_rfl)
  · refine LexAt.less (j := w.heap.size + 1) (LexAt.less (j := w.heap.size + 1 + 1) ?_)
    iterate 4 refine LexAt.setHeld ?_ (Sur.hold_old (Sur.hold_self _ _)) (by omega) _ _
    iterate 2 refine LexAt.setHeld ?_ (Sur.hold_self _ _) (by omega) _ _
    exact GA.out
  · repeat refine Kept.setNew ?_ (by omega) _ _
    exact GK.out

end
end Go.Proofs.YtaecbclonmhbcaaGreatDoor

/- A row of calls, as plain functions; and a call, whichever. -/
namespace Go.Proofs.YtaecbclonmhbcaaGreatDoor
open Go.RowKit

/-- What a call (its number, its N) tells, and what it makes of a lexer with one error: 1 Delim, 2 IsDelim, 3 Null, 4 IsNull, 15 Bool, 42 CurrentToken. -/
def callN (c : Int × Int) (x : Lx) : Int :=
  if c.1 = 2 then b01 (x.isDelim c.2) else if c.1 = 4 then b01 x.isNull else if c.1 = 42 then x.current else if c.1 = 15 then b01 x.boolV else 0
def callX (c : Int × Int) (x : Lx) : Lx :=
  if c.1 = 1 then x.delimP c.2 else if c.1 = 3 then x.null else if c.1 = 15 then x.bool else x.peek
structure OkCall (c : Int × Int) : Prop where
  op : c.1 = 1 ∨ c.1 = 2 ∨ c.1 = 3 ∨ c.1 = 4 ∨ c.1 = 15 ∨ c.1 = 42
  n : 0 ≤ c.2 ∧ c.2 ≤ 255

/-- The states, and what is told: N, the error's kind, the place. -/
def gots : List (Int × Int) → Lx → List (Int × Int × Int)
  | [], _ => []
  | c :: cs, x => (callN c x, (callX c x).err.num, ((callX c x).pos : Int)) :: gots cs (callX c x)
def runX (cs : List (Int × Int)) (x : Lx) : Lx := cs.foldl (fun y c => callX c y) x

theorem gots_length : ∀ (cs : List (Int × Int)) (x : Lx), (gots cs x).length = cs.length
  | [], _ => rfl
  | c :: cs, x => by simp [gots, gots_length cs]
theorem gots_snoc (c : Int × Int) : ∀ (cs : List (Int × Int)) (x : Lx), gots (cs ++ [c]) x = gots cs x ++ [(callN c (runX cs x), (callX c (runX cs x)).err.num, ((callX c (runX cs x)).pos : Int))]
  | [], _ => rfl
  | d :: cs, x => by
    show _ :: gots (cs ++ [c]) (callX d x) = _
    rw [gots_snoc c cs (callX d x)]
    rfl
theorem runX_snoc (c : Int × Int) (cs : List (Int × Int)) (x : Lx) : runX (cs ++ [c]) x = callX c (runX cs x) := by simp [runX]

section
variable {x : Lx}
theorem current_small (h : x.Fine) : x.current ≤ 255 := by
  have := (peek_fine h).kind
  unfold Lx.current Lx.currentR
  split <;> omega
theorem delimS_same (c : Int) : x.Same (x.delimS c) := by unfold Lx.delimS; split; exact fail_same.of rfl rfl rfl; exact ⟨rfl, rfl, rfl⟩
theorem nullS_same : x.Same x.nullS := by
  unfold Lx.nullS
  split
  · exact fail_same.trans ⟨rfl, rfl, rfl⟩
  · exact ⟨rfl, rfl, rfl⟩
theorem boolS_same : x.Same x.boolS := by unfold Lx.boolS; split; exact fail_same; exact ⟨rfl, rfl, rfl⟩
theorem callX_same (c : Int × Int) : x.Same (callX c x) := by
  unfold callX
  split
  · exact peek_same.trans (delimS_same _)
  split
  · exact peek_same.trans nullS_same
  split
  · exact peek_same.trans boolS_same
  · exact peek_same
theorem delimS_wf (h : x.Wf) (c : Int) : (x.delimS c).Wf := by unfold Lx.delimS; split; exact h.consume.fail; exact h.consume
theorem nullS_wf (h : x.Wf) : x.nullS.Wf := by
  unfold Lx.nullS
  split
  · exact h.fail.consume
  · exact h.consume
theorem boolS_wf (h : x.Wf) : x.boolS.Wf := by unfold Lx.boolS; split; exact h.fail; exact h.consume
theorem callX_wf (h : x.Wf) (c : Int × Int) : (callX c x).Wf := by
  unfold callX
  split
  · exact delimS_wf (peek_wf h) _
  split
  · exact nullS_wf (peek_wf h)
  split
  · exact boolS_wf (peek_wf h)
  · exact peek_wf h
theorem delimS_fine (h : x.Fine) (c : Int) : (x.delimS c).Fine := by unfold Lx.delimS; split; exact fail_fine (consume_fine h); exact consume_fine h
theorem nullS_fine (h : x.Fine) : x.nullS.Fine := by
  unfold Lx.nullS
  split
  · exact consume_fine (fail_fine h)
  · exact consume_fine h
theorem boolS_fine (h : x.Fine) : x.boolS.Fine := by unfold Lx.boolS; split; exact fail_fine h; exact consume_fine h
theorem callX_fine (h : x.Fine) (c : Int × Int) : (callX c x).Fine := by
  unfold callX
  split
  · exact delimS_fine (peek_fine h) _
  split
  · exact nullS_fine (peek_fine h)
  split
  · exact boolS_fine (peek_fine h)
  · exact peek_fine h
end

section
variable {w : World} {b : Nat} {ae : Sur} {ao : Addr} {x : Lx} {vd vt ve vm : Value}
theorem call_any (h : LexAt w b ae ao x vd vt ve vm) (hw : x.Wf) (hm : x.multi = false) (hf : x.Fine) (c : Int × Int) (hc : OkCall c) (p : Option Addr) (sn sc : Nat) :
    Calls Tryz.prog 26 #[.pointer (some ⟨b, 0, none⟩), callV c.1 c.2 (.slice p sn sc)] w fun e w' => CallDone w b ae ao (callX c x) vd vm (callN c x) e w' := by
  have hno := (callX_fine hf c).err
  obtain ⟨op, n⟩ := c
  obtain ⟨hop, hn⟩ := hc
  rcases hop with e | e | e | e | e | e <;> simp only at e hn <;> subst e
  · exact call_delim h hw hm n hn p sn sc hno
  · exact call_isDelim h hw hm n hn p sn sc hno
  · exact call_null h hw hm n p sn sc hno
  · exact call_isNull h hw hm n p sn sc hno
  · exact call_bool h hw hm n p sn sc hno
  · exact call_current h hw hm n (current_small hf) p sn sc hno
end
end Go.Proofs.YtaecbclonmhbcaaGreatDoor

/- impl.Lex over a row of calls. -/
namespace Go.Proofs.YtaecbclonmhbcaaGreatDoor
open Go.RowKit

theorem info30 : (Tryz.prog.info? 30).map (fun i => (i.zero, i.size, i.bytes)) = some (some (Value.agg #[.int .i64 0, .slice none 0 0, .int .i64 0, .int .i64 0]), 4, 48) := by kernel_rfl

/-- One more result behind the others. -/
theorem append_got {w : World} {base : Nat} {v : Value} {n : Nat} {xs : List Value} (hown : w.ownsRow base 30 4 v n xs) (ad : Addr) (c : Nat) (news : List Value) (hl : news.length = 4)
    (hnews : ∀ j u, news[j]? = some u → w.cell? (ad.add j) = some u) (h1 : ∀ u ∈ news, u.oneCell' = true) (hn : n ≤ 1000000) (hbase : base ≤ w.heap.size) :
    ∃ v' w', (Builtin.append_ #[24, 24] 24 #[v, .slice (some ad) 1 c]).run Tryz.prog w = .ok v' w' ∧ w'.ownsRow base 30 4 v' (n + 1) (xs ++ news) ∧ w.grownBy w' v.ownBlock ∧
      (v'.ownBlock = v.ownBlock ∨ ∃ k, w.heap.size ≤ k ∧ v'.ownBlock = some k) := by
  obtain ⟨i, hi, hz, hz1, hz2⟩ := info_parts info30
  obtain ⟨v', w', hr, h2, h3, h4⟩ := run_append_own (P := Tryz.prog) w base 24 24 30 i _ 4 48 Tryz.underlying24 hi hz hz1 hz2 rfl (by decide) v n xs hown ad 1 c news (by omega) hnews h1 (by unfold maxLen; omega) (by omega) hbase
  refine ⟨v', w', hr, h2, h3, ?_⟩
  rcases hown.2 with ⟨rfl, rfl⟩ | ⟨g, cap, cur, rfl, hbg, hg, hnc, hcm, hcs, htake⟩
  · have hr' := run_append_nil (P := Tryz.prog) w 24 24 30 i _ Tryz.underlying24 hi hz ad 1 c news (by omega) hnews (by omega) (by omega) (by omega)
    rw [hr] at hr'
    simp only [Result.ok.injEq] at hr'
    rw [hr'.1]
    exact .inr ⟨_, Nat.le_refl _, rfl⟩
  · by_cases hroom : n + 1 ≤ cap
    · obtain ⟨w2, hr', -⟩ := run_append_fits (P := Tryz.prog) w base 24 24 30 i 4 Tryz.underlying24 hi hz1 g n cap xs hown ad 1 c news (by omega) hnews h1 hroom
      rw [hr] at hr'
      simp only [Result.ok.injEq] at hr'
      rw [hr'.1]
      exact .inl rfl
    · have hr' := run_append_grow (P := Tryz.prog) w 24 24 30 i _ Tryz.underlying24 hi hz ⟨g, 0, none⟩ n cap xs (by rw [hown.1, hz1]) (hown.cells (g := g) rfl) ad 1 c news (by omega) hnews (by omega) (by omega) (growslice_fits (by omega) (by rw [hz2]; omega))
      rw [hr] at hr'
      simp only [Result.ok.injEq] at hr'
      rw [hr'.1]
      exact .inr ⟨_, Nat.le_refl _, rfl⟩

/-- The cells of what was told. -/
def gotCells (l : List (Int × Int × Int)) : List Value := l.flatMap fun g => [.int .i64 g.1, .slice none 0 0, .int .i64 g.2.1, .int .i64 g.2.2]

/-- A row of calls lies at ⟨cb, co⟩. -/
def CallsAt (w : World) (cb co : Nat) (cs : List (Int × Int)) : Prop :=
  ∀ k, k < cs.length → w.cell? ⟨cb, co + k * 3, none⟩ = some (.int .i64 (cs.getD k (0, 0)).1) ∧ w.cell? ⟨cb, co + k * 3 + 1, none⟩ = some (.int .i64 (cs.getD k (0, 0)).2) ∧ w.cell? ⟨cb, co + k * 3 + 2, none⟩ = some (.slice none 0 0)

theorem gotCells_snoc (l : List (Int × Int × Int)) (g : Int × Int × Int) : gotCells (l ++ [g]) = gotCells l ++ [.int .i64 g.1, .slice none 0 0, .int .i64 g.2.1, .int .i64 g.2.2] := by simp [gotCells]

/-- The block that holds what is gathered. -/
def Sur.own (ae : Sur) (v : Value) : Sur := ⟨ae.addr, fun j => v.ownBlock = some j⟩

section
variable {w w1 w2 : World} {b : Nat} {ae : Sur} {ao : Addr} {x : Lx} {vd vt ve vm : Value}
theorem newCall_grown (w : World) (o : Obj) (a c d : Value) : w.grownBy ((((w.alloc o).setCell ⟨w.heap.size, 0, none⟩ a).setCell ⟨w.heap.size, 1, none⟩ c).setCell ⟨w.heap.size, 2, none⟩ d) none :=
  ⟨rfl, rfl, rfl, by simp, fun k hk _ => by
    rw [heap_setCell_other _ _ (by omega), heap_setCell_other _ _ (by omega), heap_setCell_other _ _ (by omega)]
    exact heap_alloc_lt hk⟩
theorem LexAt.newCall (h : LexAt w b ae ao x vd vt ve vm) (o : Obj) (a c d : Value) :
    LexAt ((((w.alloc o).setCell ⟨w.heap.size, 0, none⟩ a).setCell ⟨w.heap.size, 1, none⟩ c).setCell ⟨w.heap.size, 2, none⟩ d) b ae ao x vd vt ve vm :=
  h.grown (newCall_grown w o a c d) (by simp)

theorem BytesAt.move {w w' : World} {A A' : Nat → Prop} {v : Value} {l : List Int} {r : Option Nat} (h : BytesAt w A v l) (hg : w.grownBy w' r) (hr : ∀ k, r = some k → A k) (hA : ∀ k, k < w.heap.size → A' k → A k) : BytesAt w' A' v l := by
  rcases h with h | ⟨b, o, cap, hv, hc, hn, hx⟩
  · exact .inl h
  · exact .inr ⟨b, o, cap, hv, hc, ⟨fun a => hn.1 (hA _ hn.2 a), Nat.lt_of_lt_of_le hn.2 hg.size⟩, fun i hi => hg.cell (hx i hi) fun e => hn.1 (hr _ e.symm)⟩
/-- A step that leaves the lexer's blocks, and that holds another block behind it. -/
theorem LexAt.move {w' : World} {ae' : Sur} {r : Option Nat} (h : LexAt w b ae ao x vd vt ve vm) (hg : w.grownBy w' r) (hr : ∀ k, r = some k → ae.held k ∧ k ≠ b ∧ 1 < k)
    (ha : ae'.addr = ae.addr) (hA : ∀ k, k < w.heap.size → ae'.off b k → ae.off b k) (hh : ∀ k, ae'.held k → k < w'.heap.size) : LexAt w' b ae' ao x vd vt ve vm := by
  have hA' : ∀ k, r = some k → ae.off b k := fun k e => .inr (hr k e).1
  have g := h.grown hg hr
  refine ⟨g.heap, h.data.move hg hA' hA, h.tok.move hg hA' hA, ?_, ⟨by rw [ha]; exact g.env.eof, g.env.other, by rw [ha]; exact g.env.ne⟩, h.b2, hh⟩
  have he := h.err
  cases hx : x.err <;> rw [hx] at he <;> simp only [ErrAt] at he ⊢
  · exact he
  · rw [ha]; exact he
  · exact he
  · obtain ⟨k, s, t, hv, hn, hh⟩ := he
    exact ⟨k, s, t, hv, fun a => hn (hA k (lt_heap hh) a), by rw [hg.block k (lt_heap hh) (fun e => hn (hA' k e.symm))]; exact hh⟩

theorem grownBy_self {r : Option Nat} (w : World) : w.grownBy w r := ⟨rfl, rfl, rfl, Nat.le_refl _, fun _ _ _ => rfl⟩
theorem ownsRow_base {w : World} {base base' : Nat} {e : TypeId} {size : Nat} {v : Value} {n : Nat} {xs : List Value} (h : w.ownsRow base e size v n xs) (hb : base' ≤ base) : w.ownsRow base' e size v n xs := by
  refine ⟨h.1, ?_⟩
  rcases h.2 with h' | ⟨g, cap, cur, hv, hbg, rest⟩
  · exact .inl h'
  · exact .inr ⟨g, cap, cur, hv, by omega, rest⟩

/-- Behind a call, and behind the append of what it told. -/
theorem round_step {B k : Nat} {v : Value} {xs : List Value} {n q p : Int} {s : Value} (hs1 : s.oneCell' = true) (h0 : w.grownBy w1 none) (hk : Kept b w1 w2) (hown : w.ownsRow (b + 1) 30 4 v k xs) (hkn : k ≤ 1000000)
    (g : LexAt w2 b (ae.own v) ao x vd vt ve vm) (hB : B ≤ b) (hlt : b < w.heap.size) :
    ∃ v' w', (Builtin.append_ #[24, 24] 24 #[v, .slice (some ⟨w2.heap.size, 0, none⟩) 1 1]).run Tryz.prog (w2.alloc (.cells #[.int .i64 n, s, .int .i64 q, .int .i64 p] 30)) = .ok v' w' ∧
      w'.ownsRow (b + 1) 30 4 v' (k + 1) (xs ++ [.int .i64 n, s, .int .i64 q, .int .i64 p]) ∧ LexAt w' b (ae.own v') ao x vd vt ve vm ∧ Below B w w' ∧ (w2.alloc (.cells #[.int .i64 n, s, .int .i64 q, .int .i64 p] 30)).grownBy w' v.ownBlock := by
  have hg12 : w.grownBy w2 (some b) := ⟨hk.os.trans h0.os, hk.tape.trans h0.tape, hk.output.trans h0.output, Nat.le_trans h0.size hk.size, fun j hj hn =>
    (hk.block j (Nat.lt_of_lt_of_le hj h0.size) (fun e => hn (by rw [e]))).trans (h0.block j hj (by simp))⟩
  have hown2 := hown.kept hg12 (by
    cases hv : v.ownBlock with
    | none => exact .inl rfl
    | some g => exact .inr (fun e => by have := (hown.lt g hv).1; have := Option.some.inj e; omega))
  have hown3 := hown2.alloc (.cells #[.int .i64 n, s, .int .i64 q, .int .i64 p] 30)
  have hsz : (w2.alloc (.cells #[.int .i64 n, s, .int .i64 q, .int .i64 p] 30)).heap.size = w2.heap.size + 1 := by simp
  have hs2 := hg12.size
  obtain ⟨v', w', hr, ho, hg, hblk⟩ := append_got hown3 ⟨w2.heap.size, 0, none⟩ 1 [.int .i64 n, s, .int .i64 q, .int .i64 p] rfl
    (fun j u hj => by
      have hj4 := (List.getElem?_eq_some_iff.1 hj).1
      have hh := heap_alloc_new w2 (.cells #[.int .i64 n, s, .int .i64 q, .int .i64 p] 30)
      rw [show (⟨w2.heap.size, 0, none⟩ : Addr).add j = ⟨w2.heap.size, j, none⟩ by unfold Addr.add; split <;> simp_all]
      exact cell_of_heap hh j (by simpa using hj))
    (by intro u hu; simp only [List.mem_cons, List.not_mem_nil, or_false] at hu; rcases hu with rfl | rfl | rfl | rfl; rfl; exact hs1; rfl; rfl) hkn (by omega)
  have gA := LexAt.alloc g (.cells #[.int .i64 n, s, .int .i64 q, .int .i64 p] 30)
  refine ⟨v', w', hr, ho, gA.move hg (fun j e => ⟨e, by have := (hown.lt j e).1; omega, by have := (hown.lt j e).1; have := g.b2; omega⟩) rfl ?_ (fun j e => (ho.lt j e).2), ?_, hg⟩
  · rintro j hj (e | e)
    · exact .inl e
    · rcases hblk with e' | ⟨m, hm, e'⟩
      · exact .inr (by show v.ownBlock = some j; rw [← e']; exact e)
      · have e2 : v'.ownBlock = some j := e
        rw [e'] at e2
        have := Option.some.inj e2
        omega
  · have h1 : Below B w w2 := (Below.refl B w).trans ⟨hg12.os, hg12.tape, hg12.output, hg12.size, fun j hj => hg12.block j (by omega) (by simp; omega)⟩
    exact (h1.alloc (by omega) _).grown hg (by omega) (fun j e => by have := (hown.lt j e).1; omega)
end

theorem CallDone.split {w w' : World} {b : Nat} {ae : Sur} {ao : Addr} {x' : Lx} {vd vm : Value} {n : Int} {e : Ending} (h : CallDone w b ae ao x' vd vm n e w') :
    e = .returned (gotV n (.slice none 0 0) x'.err.num x'.pos) ∧ ∃ vt' ve', LexAt w' b ae ao x' vd vt' ve' vm ∧ Kept b w w' := h
theorem runX_same (cs : List (Int × Int)) : ∀ x : Lx, x.Same (runX cs x) := by
  induction cs with
  | nil => intro x; exact Lx.Same.refl x
  | cons c cs ih => intro x; exact (callX_same c).trans (ih _)
theorem runX_wf (cs : List (Int × Int)) : ∀ x : Lx, x.Wf → (runX cs x).Wf := by
  induction cs with
  | nil => intro x h; exact h
  | cons c cs ih => intro x h; exact ih _ (callX_wf h c)
theorem runX_fine (cs : List (Int × Int)) : ∀ x : Lx, x.Fine → (runX cs x).Fine := by
  induction cs with
  | nil => intro x h; exact h
  | cons c cs ih => intro x h; exact ih _ (callX_fine h c)
theorem take_snoc (cs : List (Int × Int)) {k : Nat} (h : k < cs.length) : cs.take (k + 1) = cs.take k ++ [cs.getD k (0, 0)] := by
  rw [List.take_succ_eq_append_getElem h]; simp [List.getD, h]

set_option maxHeartbeats 2000000 in
set_option maxRecDepth 100000 in
theorem lex_any {w : World} {A : Nat → Prop} {v : Value} {l : List Int} {ae : Sur} {ao : Addr} (hv : BytesAt w A v l) (hl : l.length ≤ 1073741824) (hby : Bytes l) (he : Env w ae ao) (h2 : 1 < w.heap.size)
    (cs : List (Int × Int)) (hok : ∀ c ∈ cs, OkCall c) (hcl : cs.length ≤ 1000000) (cb co cc : Nat) (hcs : CallsAt w cb co cs) (hcb : cb < w.heap.size) :
    Calls Tryz.prog 13 #[v, .bool false, .slice (some ⟨cb, co, none⟩) cs.length cc] w fun e w' =>
      ∃ v', e = .returned v' ∧ w'.ownsRow w.heap.size 30 4 v' cs.length (gotCells (gots cs (Lx.begin l false))) ∧ Below w.heap.size w w' := by
  have hX : (Lx.begin l false).Wf := ⟨by show l.length ≤ _; omega, Nat.zero_le _, Nat.le_refl _, hby⟩
  have hXf : (Lx.begin l false).Fine := ⟨by show (0 : Nat) ≤ 5; decide, by simp [Lx.begin]⟩
  have HX := Lib.hid hX
  have HXf := Lib.hid hXf
  have HOK := Lib.hid hok
  have HCS := Lib.hid hcs
  have HCB := Lib.hid hcb
  clear hX hXf hok hcs hcb
  go_enter Tryz.func13, Tryz.ntmps13
  go_wp2_with (go_at_call 25; refine (lexer_any (ae := ⟨ae.addr, fun _ => False⟩) hv (by omega) ⟨he.eof, he.other, he.ne⟩ (fun _ a => a.elim) h2 false).mono ?_; rintro e w1 ⟨b, vd, rfl, hb, hg, hlx⟩)
  have HB0 := Lib.hid ((Below.refl w.heap.size w).grown hg (Nat.le_refl _) (by simp))
  have HL0 := Lib.hid hlx
  clear hg hlx hv he
  go_loopw [8, 16] (fun v i wr => ∃ (k : Nat), i = .int .i64 k ∧ k ≤ cs.length ∧ wr.ownsRow (b + 1) 30 4 v k (gotCells (gots (cs.take k) (Lx.begin l false))) ∧ Below w.heap.size w wr ∧
      ∃ vt ve, LexAt wr b (ae.own v) ao (runX (cs.take k) (Lx.begin l false)) vd vt ve (.slice none 0 0))
    (fun _ i _ => cs.length - (intOf i).toNat)
  case atStart =>
    refine ⟨0, rfl, Nat.zero_le _, World.ownsRow_nil _ _ _ _, HB0.out, _, _, HL0.out.move (grownBy_self (r := none) _) (by simp) rfl ?_ ?_⟩
    · rintro j hj (e | e)
      · exact .inl e
      · cases e
    · intro j e; cases e
  case round =>
    obtain ⟨k, rfl, hk, hown, hbel, vt, ve, hlr⟩ := hrel
    have HO := Lib.hid hown
    have HB := Lib.hid hbel
    have HL := Lib.hid hlr
    clear hown hbel hlr
    by_cases hlt : k < cs.length
    case neg =>
      obtain rfl : k = cs.length := by omega
      go_wp2
      go_ret
      have h := HO.out
      rw [List.take_length] at h
      exact ⟨_, rfl, ownsRow_base h (by omega), HB.out⟩
    case pos =>
      have q0 := (HB.out.cell (p := ⟨cb, co + k * 3, none⟩) HCB.out).trans (HCS.out k hlt).1
      have q1 := (HB.out.cell (p := ⟨cb, co + k * 3 + 1, none⟩) HCB.out).trans (HCS.out k hlt).2.1
      have q2 := (HB.out.cell (p := ⟨cb, co + k * 3 + 2, none⟩) HCB.out).trans (HCS.out k hlt).2.2
      have HOC := Lib.hid (HOK.out (cs.getD k (0, 0)) (by simp [List.getD, hlt]))
      have HT := Lib.hid (take_snoc cs hlt)
      generalize cs.getD k (0, 0) = c at q0 q1 HOC HT
      obtain ⟨X, hX⟩ : ∃ X, X = runX (cs.take k) (Lx.begin l false) := ⟨_, rfl⟩
      have HL1 := HL.out
      rw [← hX] at HL1
      have HW : RowKit.Hid X.Wf := by show X.Wf; rw [hX]; exact runX_wf _ _ HX.out
      have HF : RowKit.Hid X.Fine := by show X.Fine; rw [hX]; exact runX_fine _ _ HXf.out
      have HM : RowKit.Hid (X.multi = false) := by show _ = _; rw [hX]; exact (runX_same _ _).multi
      have HG : RowKit.Hid (gotCells (gots (cs.take (k + 1)) (Lx.begin l false)) = gotCells (gots (cs.take k) (Lx.begin l false)) ++ [.int .i64 (callN c X), .slice none 0 0, .int .i64 (callX c X).err.num, .int .i64 (callX c X).pos]) := by
        show _ = _; rw [HT.out, gots_snoc, gotCells_snoc, ← hX]
      have HX1 : RowKit.Hid (runX (cs.take (k + 1)) (Lx.begin l false) = callX c X) := by show _ = _; rw [HT.out, runX_snoc, ← hX]
      have HL2 := Lib.hid HL1
      have hbr := HL1.lt
      clear HL1 hX HL
      go_wp2_with (first
        | (go_at_call 26; refine (call_any (HL2.out.alloc _) HW.out HM.out HF.out c HOC.out none 0 0).mono ?_; intro e w2 hD0; obtain ⟨he, hD⟩ := CallDone.split hD0; clear hD0; subst he; obtain ⟨vt1, ve1, g1, g2⟩ := hD; unfold gotV; obtain ⟨v', w', hr, ho, hl', hb', -⟩ := round_step (s := .slice none 0 0) rfl (n := callN c X) (q := (callX c X).err.num) (p := ((callX c X).pos : Int)) (World.grownBy_alloc _ _ none) g2 HO.out (by omega) g1 hb hbr; generalize callN c X = n1 at hr ho HG; generalize (callX c X).err.num = n2 at hr ho HG; generalize (((callX c X).pos : Nat) : Int) = n3 at hr ho HG; have HR := Lib.hid hr; have HN := Lib.hid ho; have HL3 := Lib.hid hl'; have HB3 := Lib.hid hb'; clear hr ho hl' hb' g1 g2)
        | (at_builtin; refine Lib.wpList_append_run_sl _ rfl _ _ 24 rfl _ _ rfl rfl HR.out ?_))
      go_roundw
      case rel =>
        refine ⟨k + 1, by go_num, by omega, by rw [HG.out]; exact HN.out, HB.out.trans HB3.out, vt1, ve1, ?_⟩
        rw [HX1.out]
        exact HL3.out
      case measure => simp [intOf]; omega
end Go.Proofs.YtaecbclonmhbcaaGreatDoor

/- impl.Lex over a row of calls, each told by what it may do. -/
namespace Go.Proofs.YtaecbclonmhbcaaGreatDoor
open Go.RowKit

/-- What holds of a lexer with one error between calls. -/
structure Lx.Inv (x : Lx) : Prop where
  wf : x.Wf
  multi : x.multi = false
  kind : x.kind ≤ 5
  tf : x.TF
  nf : x.NF
  len : x.d.length ≤ 100000
/-- What a call may do: behind an error it tells nothing and leaves the error; AddError sets one. -/
structure Step (op : Int) (x x' : Lx) (n : Int) (s : Value) : Prop where
  inv : x'.Inv
  sl : ∃ p k c, s = .slice p k c ∧ (x.ok = false → k = 0)
  shut : x.ok = false → x'.err = x.err ∧ n = 0
  add : op = 45 → x'.ok = false

abbrev Gt := Int × Value × Int × Int
inductive Chain (x0 : Lx) : List Int → List Gt → Lx → Prop
  | nil : Chain x0 [] [] x0
  | snoc {ops : List Int} {gs : List Gt} {x x' : Lx} {op n : Int} {s : Value} : Chain x0 ops gs x → Step op x x' n s → Chain x0 (ops ++ [op]) (gs ++ [(n, s, x'.err.num, (x'.pos : Int))]) x'

theorem Chain.inv {x0 x : Lx} {ops : List Int} {gs : List Gt} (h : Chain x0 ops gs x) (h0 : x0.Inv) : x.Inv := by
  cases h with
  | nil => exact h0
  | snoc _ hs => exact hs.inv
theorem Chain.length {x0 x : Lx} {ops : List Int} {gs : List Gt} (h : Chain x0 ops gs x) : gs.length = ops.length := by
  induction h with
  | nil => rfl
  | snoc _ _ ih => simp [ih]

/-- The cells of what was told. -/
def gotCs (l : List Gt) : List Value := l.flatMap fun g => [.int .i64 g.1, g.2.1, .int .i64 g.2.2.1, .int .i64 g.2.2.2]
theorem gotCs_snoc (l : List Gt) (g : Gt) : gotCs (l ++ [g]) = gotCs l ++ [.int .i64 g.1, g.2.1, .int .i64 g.2.2.1, .int .i64 g.2.2.2] := by simp [gotCs]

def CallR (op : Int) (w : World) (b : Nat) (ae : Sur) (ao : Addr) (x : Lx) (vd vm : Value) (e : Ending) (w' : World) : Prop :=
  ∃ (x' : Lx) (n : Int) (s : Value), Step op x x' n s ∧ e = .returned (gotV n s x'.err.num x'.pos) ∧ NumDone w b ae ao x' vd vm w'
/-- A call of this number does what it may, in every world over w0. -/
def CallOk (w0 : World) (ae ao : Addr) (op : Int) : Prop := ∀ (w : World) (b : Nat) (s : Sur) (x : Lx) (vd vt ve vm : Value) (n : Int) (p : Option Addr) (sn sc : Nat),
  s.addr = ae → LexAt w b s ao x vd vt ve vm → x.Inv → w0.heap.size ≤ b → Below w0.heap.size w0 w →
    Calls Tryz.prog 26 #[.pointer (some ⟨b, 0, none⟩), callV op n (.slice p sn sc)] w (CallR op w b s ao x vd vm)

/-- A row of calls lies at ⟨cb, co⟩. -/
def CallsIn (w : World) (cb co : Nat) (cs : List (Int × Int × Value)) : Prop :=
  ∀ k, k < cs.length → ∃ (p : Option Addr) (sn sc : Nat), (cs.getD k (0, 0, .nilIface)).2.2 = .slice p sn sc ∧ w.cell? ⟨cb, co + k * 3, none⟩ = some (.int .i64 (cs.getD k (0, 0, .nilIface)).1) ∧ w.cell? ⟨cb, co + k * 3 + 1, none⟩ = some (.int .i64 (cs.getD k (0, 0, .nilIface)).2.1) ∧
    w.cell? ⟨cb, co + k * 3 + 2, none⟩ = some (.slice p sn sc)

theorem begin_inv {l : List Int} (hl : l.length ≤ 100000) (hby : Bytes l) : (Lx.begin l false).Inv :=
  ⟨⟨by show l.length ≤ _; omega, Nat.zero_le _, Nat.le_refl _, hby⟩, rfl, by show (0 : Nat) ≤ 5; decide, tf_kind (by show (0 : Nat) ≠ 2 ∧ (0 : Nat) ≠ 3; decide), nf_kind (by show (0 : Nat) ≠ 3; decide), hl⟩
theorem take_snoc3 (cs : List (Int × Int × Value)) {k : Nat} (h : k < cs.length) : (cs.take (k + 1)).map (·.1) = (cs.take k).map (·.1) ++ [(cs.getD k (0, 0, .nilIface)).1] := by
  rw [List.take_succ_eq_append_getElem h, List.map_append]; simp [List.getD, h]

set_option maxHeartbeats 4000000 in
set_option maxRecDepth 100000 in
theorem lex_rel {w : World} {A : Nat → Prop} {v : Value} {l : List Int} {ae ao : Addr} (hv : BytesAt w A v l) (hl : l.length ≤ 100000) (hby : Bytes l) (he : Env w ⟨ae, fun _ => False⟩ ao) (h2 : 1 < w.heap.size)
    (cs : List (Int × Int × Value)) (hok : ∀ c ∈ cs, CallOk w ae ao c.1) (hcl : cs.length ≤ 1000000) (cb co cc : Nat) (pv : Option Addr) (hpv : 0 < cs.length → pv = some ⟨cb, co, none⟩) (hcs : CallsIn w cb co cs) (hcb : cb < w.heap.size) :
    Calls Tryz.prog 13 #[v, .bool false, .slice pv cs.length cc] w fun e w' =>
      ∃ v' gs X, e = .returned v' ∧ Chain (Lx.begin l false) (cs.map (·.1)) gs X ∧ w'.ownsRow w.heap.size 30 4 v' cs.length (gotCs gs) ∧ Below w.heap.size w w' := by
  have HX := Lib.hid (begin_inv hl hby)
  have HOK := Lib.hid hok
  have HCS := Lib.hid hcs
  have HCB := Lib.hid hcb
  have HPV := Lib.hid hpv
  clear hok hcs hcb hpv
  go_enter Tryz.func13, Tryz.ntmps13
  go_wp2_with (go_at_call 25; refine (lexer_any (ae := ⟨ae, fun _ => False⟩) hv (by omega) ⟨he.eof, he.other, he.ne⟩ (fun _ a => a.elim) h2 false).mono ?_; rintro e w1 ⟨b, vd, rfl, hb, hg, hlx⟩)
  have HB0 := Lib.hid ((Below.refl w.heap.size w).grown hg (Nat.le_refl _) (by simp))
  have HL0 := Lib.hid hlx
  clear hg hlx hv he
  go_loopw [8, 16] (fun v i wr => ∃ (k : Nat) (gs : List Gt) (X : Lx), i = .int .i64 k ∧ k ≤ cs.length ∧ Chain (Lx.begin l false) ((cs.take k).map (·.1)) gs X ∧ wr.ownsRow (b + 1) 30 4 v k (gotCs gs) ∧ Below w.heap.size w wr ∧
      ∃ vt ve, LexAt wr b (Sur.own ⟨ae, fun _ => False⟩ v) ao X vd vt ve (.slice none 0 0))
    (fun _ i _ => cs.length - (intOf i).toNat)
  case atStart =>
    refine ⟨0, [], _, rfl, Nat.zero_le _, .nil, World.ownsRow_nil _ _ _ _, HB0.out, _, _, HL0.out.move (grownBy_self (r := none) _) (by simp) rfl ?_ ?_⟩
    · rintro j hj (e | e)
      · exact .inl e
      · cases e
    · intro j e; cases e
  case round =>
    obtain ⟨k, gs, X, rfl, hk, hch, hown, hbel, vt, ve, hlr⟩ := hrel
    have HO := Lib.hid hown
    have HB := Lib.hid hbel
    have HL := Lib.hid hlr
    have HC := Lib.hid hch
    clear hown hbel hlr hch
    by_cases hlt : k < cs.length
    case neg =>
      obtain rfl : k = cs.length := by omega
      go_wp2
      go_ret
      have h := HC.out
      rw [List.take_length] at h
      exact ⟨_, gs, X, rfl, h, ownsRow_base HO.out (by omega), HB.out⟩
    case pos =>
      obtain rfl := HPV.out (by omega)
      obtain ⟨p3, s3, c3, hc3, q0', q1', q2'⟩ := HCS.out k hlt
      have q0 := (HB.out.cell (p := ⟨cb, co + k * 3, none⟩) HCB.out).trans q0'
      have q1 := (HB.out.cell (p := ⟨cb, co + k * 3 + 1, none⟩) HCB.out).trans q1'
      have q2 := (HB.out.cell (p := ⟨cb, co + k * 3 + 2, none⟩) HCB.out).trans q2'
      clear q0' q1' q2' hc3
      have HOC := Lib.hid (HOK.out (cs.getD k (0, 0, .nilIface)) (by simp [List.getD, hlt]))
      have HT := Lib.hid (take_snoc3 cs hlt)
      generalize cs.getD k (0, 0, .nilIface) = c at q0 q1 HOC HT
      obtain ⟨op, nn, c2⟩ := c
      simp only at q0 q1
      have HI := Lib.hid (HC.out.inv HX.out)
      have hbr := HL.out.lt
      go_wp2_with (first
        | (go_at_call 26; refine (HOC.out _ _ _ _ _ _ _ _ nn p3 s3 c3 rfl (HL.out.alloc _) HI.out hb (HB.out.alloc (by omega) _)).mono ?_; rintro e w2 ⟨X', n1, s1, hst, he, vt1, ve1, g1, g2⟩; obtain ⟨sp, sk, sc, hs, -⟩ := hst.sl; subst hs; subst he; unfold gotV; obtain ⟨n2, hn2⟩ : ∃ n2 : Int, n2 = X'.err.num := ⟨_, rfl⟩; obtain ⟨n3, hn3⟩ : ∃ n3 : Int, n3 = (X'.pos : Nat) := ⟨_, rfl⟩; rw [← hn2, ← hn3]; have HN2 := Lib.hid hn2; have HN3 := Lib.hid hn3; clear hn2 hn3; have HST := Lib.hid hst; clear hst; obtain ⟨v', w', hr, ho, hl', hb', -⟩ := round_step (s := .slice sp sk sc) rfl (n := n1) (q := n2) (p := n3) (World.grownBy_alloc _ _ none) g2 HO.out (by omega) g1 hb hbr; have HR := Lib.hid hr; have HN := Lib.hid ho; have HL3 := Lib.hid hl'; have HB3 := Lib.hid hb'; clear hr ho hl' hb' g1 g2)
        | (at_builtin; refine Lib.wpList_append_run_sl _ rfl _ _ 24 rfl _ _ rfl rfl HR.out ?_))
      go_roundw
      case rel =>
        refine ⟨k + 1, gs ++ [(n1, .slice sp sk sc, n2, n3)], X', by go_num, by omega, ?_, ?_, HB.out.trans HB3.out, vt1, ve1, HL3.out⟩
        · rw [HT.out, HN2.out, HN3.out]
          exact .snoc HC.out HST.out
        · rw [gotCs_snoc]
          exact HN.out
      case measure => simp [intOf]; omega
end Go.Proofs.YtaecbclonmhbcaaGreatDoor
