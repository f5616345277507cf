/- impl.call, the calls that the claims make. Printed by gen_call.py. -/
import Derived.Test.YtaecbclonmhbcaaGreatDoorMark
namespace Go.Proofs.YtaecbclonmhbcaaGreatDoor
open Go.RowKit

theorem Sur.hold_old {s : Sur} {j k : Nat} (h : s.held k) : (s.hold j).held k := Or.inl h

section
variable {w w' : World} {b : Nat} {ae : Sur} {ao : Addr} {x : Lx} {vd vt ve vm : Value}

theorem LexAt.got4 (h : LexAt w b ae ao x vd vt ve vm) {k : Nat} (hk : ae.held k) (hb : b < k) (v0 v1 v2 v3 : Value) :
    LexAt ((((w.setCell ⟨k, 0, none⟩ v0).setCell ⟨k, 1, none⟩ v1).setCell ⟨k, 2, none⟩ v2).setCell ⟨k, 3, none⟩ v3) b ae ao x vd vt ve vm :=
  (((h.setHeld hk hb 0 v0).setHeld hk hb 1 v1).setHeld hk hb 2 v2).setHeld hk hb 3 v3

theorem kind_any {v : Value} {e : Er} (h : ErrAt w b ae ao v e) (he : Env w ae ao) (hn : e ≠ .other) :
    Calls Tryz.prog 35 #[v] w fun e' w' => e' = .returned (.int .i64 e.num) ∧ w = w' := by
  cases e with
  | nil => simp only [ErrAt] at h; subst h; exact kind_nil w
  | eof => simp only [ErrAt] at h; subst h; exact kind_eof w he
  | other => exact absurd rfl hn
  | lex n => obtain ⟨k, s, t, rfl, -, -⟩ := h; exact kind_lex w _ he

theorem got_heap3 {w w1 : World} {b : Nat} {o : Obj} {c c' : Array Value} (h : Kept b (((w.alloc o).alloc (.cells c 30)).alloc (.cells c' 30)) w1) (hb : b < w.heap.size) :
    w1.heap[w.heap.size + 1]? = some (.cells c 30 (0, 0)) ∧ w1.heap[w.heap.size + 1 + 1]? = some (.cells c' 30 (0, 0)) := by
  have hs : (w.alloc o).heap.size = w.heap.size + 1 := by simp
  have hs' : ((w.alloc o).alloc (.cells c 30)).heap.size = w.heap.size + 1 + 1 := by simp
  have h1 := h.heap (heap_alloc_new ((w.alloc o).alloc (.cells c 30)) (.cells c' 30)) (by omega)
  have h0 : (((w.alloc o).alloc (.cells c 30)).alloc (.cells c' 30)).heap[w.heap.size + 1]? = some (.cells c 30 (0, 0)) := by
    rw [heap_alloc_lt (by rw [hs']; omega), ← hs]
    exact heap_alloc_new (w.alloc o) (.cells c 30)
  rw [hs'] at h1
  exact ⟨h.heap h0 (by omega), h1⟩

/-- Behind the store of what the call's own function told. -/
theorem got_store {w1 w2 : World} {x' : Lx} {vt1 ve1 : Value} {o : Obj} {c : Array Value} {d0 d1 d2 d3 v0 v1 v2 v3 : Value} (g1 : LexAt w1 b ((ae.hold (w.heap.size + 1)).hold (w.heap.size + 1 + 1)) ao x' vd vt1 ve1 vm)
    (g2 : Kept b (((w.alloc o).alloc (.cells c 30)).alloc (.cells #[d0, d1, d2, d3] 30)) w1) (hb : b < w.heap.size)
    (h2 : (((w1.setCell ⟨w.heap.size + 1 + 1, 0, none⟩ v0).setCell ⟨w.heap.size + 1 + 1, 1, none⟩ v1).setCell ⟨w.heap.size + 1 + 1, 2, none⟩ v2).setCell ⟨w.heap.size + 1 + 1, 3, none⟩ v3 = w2) :
    w2.heap[w.heap.size + 1]? = some (.cells c 30 (0, 0)) ∧ w2.heap[w.heap.size + 1 + 1]? = some (.cells #[v0, v1, v2, v3] 30 (0, 0)) ∧ LexAt w2 b ((ae.hold (w.heap.size + 1)).hold (w.heap.size + 1 + 1)) ao x' vd vt1 ve1 vm ∧ Kept b w w2 := by
  obtain ⟨ha, hc⟩ := got_heap3 g2 hb
  subst h2
  refine ⟨?_, ?_, g1.got4 (Sur.hold_self _ _) (by omega) _ _ _ _, ?_⟩
  · rw [heap_setCell_other _ _ (by omega), heap_setCell_other _ _ (by omega), heap_setCell_other _ _ (by omega), heap_setCell_other _ _ (by omega)]
    exact ha
  · exact heap_setCell (heap_setCell (heap_setCell (heap_setCell hc 0 v0) 1 v1) 2 v2) 3 v3
  · repeat refine Kept.setNew ?_ (by omega) _ _
    exact Kept.of_alloc (Kept.of_alloc (Kept.of_alloc g2))

theorem MarkDone.split {x' : Lx} {n : Int} {e : Ending} (h : MarkDone w b ae ao x' vd vm n e w') : e = .returned (gotV n (.slice none 0 0) 0 0) ∧ ∃ vt' ve', LexAt w' b ae ao x' vd vt' ve' vm ∧ Kept b w w' := h

/-- What a call does to the lexer, and tells. -/
def CallDone (w : World) (b : Nat) (ae : Sur) (ao : Addr) (x' : Lx) (vd vm : Value) (n : Int) (e : Ending) (w' : World) : Prop :=
  e = .returned (gotV n (.slice none 0 0) x'.err.num x'.pos) ∧ NumDone w b ae ao x' vd vm w'


set_option maxHeartbeats 2000000 in
set_option maxRecDepth 100000 in
theorem call_delim (h : LexAt w b ae ao x vd vt ve vm) (hw : x.Wf) (hm : x.multi = false) (n : Int) (hn : 0 ≤ n ∧ n ≤ 255) (p : Option Addr) (sn sc : Nat) (hno : (x.delimP n).err ≠ .other) :
    Calls Tryz.prog 26 #[.pointer (some ⟨b, 0, none⟩), callV 1 n (.slice p sn sc)] w fun e w' => CallDone w b ae ao (x.delimP n) vd vm (0) e w' := by
  have H := Lib.hid h
  have hbl := h.lt
  clear h
  unfold callV
  have hs1 : ∀ o : Obj, (w.alloc o).heap.size = w.heap.size + 1 := fun o => by simp
  have hs2 : ∀ o o' : Obj, ((w.alloc o).alloc o').heap.size = w.heap.size + 1 + 1 := fun o o' => by simp
  have HS1 := Lib.hid hs1
  have HS2 := Lib.hid hs2
  clear hs1 hs2
  have ne1 : w.heap.size + 1 ≠ w.heap.size + 1 + 1 := by omega
  have ne2 : w.heap.size + 1 + 1 ≠ w.heap.size + 1 := by omega
  go_enter Tryz.func26, Tryz.ntmps26
  go_wp2_with (first
    | (go_at_call 40; refine (mark_delim (((H.out.alloc _).hold _).hold _) hw hm n hn p sn sc).mono ?_; intro e w1 hD0; obtain ⟨he, hD⟩ := MarkDone.split hD0; clear hD0; subst he; obtain ⟨vt1, ve1, g1, g2⟩ := hD; unfold gotV; have hG := got_heap3 g2 hbl; have u0 := cell_of_heap hG.2 0 rfl; have v0 := free_of_heap hG.2 0; have u1 := cell_of_heap hG.2 1 rfl; have v1 := free_of_heap hG.2 1; have u2 := cell_of_heap hG.2 2 rfl; have v2 := free_of_heap hG.2 2; have u3 := cell_of_heap hG.2 3 rfl; have v3 := free_of_heap hG.2 3; rw [HS1.out, HS2.out] at g1; have G1 := Lib.hid g1; have G2 := Lib.hid g2; have GH := Lib.hid hG; clear g1 g2 hG)
    | (go_at_call 28; refine (error_any (got_store G1.out G2.out hbl rfl).2.2.1).mono ?_; intro e w2 h28; obtain ⟨he, hw2⟩ := h28; subst he; have hst := got_store G1.out G2.out hbl hw2; clear hw2 G1 G2 GH; clear u0 v0; clear u1 v1; clear u2 v2; clear u3 v3; obtain ⟨hA, hB, hC, hD⟩ := hst; have y0 := cell_of_heap hA 0 rfl; have z0 := free_of_heap hA 0; have u0 := cell_of_heap hB 0 rfl; have v0 := free_of_heap hB 0; have y1 := cell_of_heap hA 1 rfl; have z1 := free_of_heap hA 1; have u1 := cell_of_heap hB 1 rfl; have v1 := free_of_heap hB 1; have y2 := cell_of_heap hA 2 rfl; have z2 := free_of_heap hA 2; have u2 := cell_of_heap hB 2 rfl; have v2 := free_of_heap hB 2; have y3 := cell_of_heap hA 3 rfl; have z3 := free_of_heap hA 3; have u3 := cell_of_heap hB 3 rfl; have v3 := free_of_heap hB 3; have HA := Lib.hid hA; have HB := Lib.hid hB; have GA := Lib.hid hC; have GK := Lib.hid hD; clear hA hB hC hD)
    | (go_at_call 35; refine (kind_any GA.out.err GA.out.env hno).mono ?_; rintro e w3 ⟨h3, rfl⟩; obtain ⟨q, hq⟩ : ∃ q : Int, q = (x.delimP n).err.num := ⟨_, rfl⟩; rw [← hq] at h3; subst h3; have HQ := Lib.hid hq; clear hq)
    | (go_at_call 34; refine (getPos_any GA.out).mono ?_; rintro e w4 ⟨h4, rfl⟩; obtain ⟨r, hr⟩ : ∃ r : Int, r = (x.delimP n).pos := ⟨_, rfl⟩; rw [← hr] at h4; subst h4; have HR := Lib.hid hr; clear hr))
  (try simp only [Exit.inBlock, Exit.then])
  refine bodyPost_ret (v := gotV (0) (.slice none 0 0) q r) ?_ rfl ⟨by rw [HQ.out, HR.out], vt1, ve1, ?_, ?_⟩
  · exact results_cell_row rfl _ _ (w.heap.size + 1) 30 _ (0, 0) _ rfl (heap_setCell (heap_setCell (heap_setCell (heap_setCell ((heap_setCell_other 3 _ ne1).trans ((heap_setCell_other 2 _ ne1).trans HA.out)) 0 _) 1 _) 2 _) 3 _) Tryz.underlying30 rfl (by kernel_rfl)
  · refine LexAt.less (j := w.heap.size + 1) (LexAt.less (j := w.heap.size + 1 + 1) ?_)
    iterate 4 refine LexAt.setHeld ?_ (Sur.hold_old (Sur.hold_self _ _)) (by omega) _ _
    iterate 2 refine LexAt.setHeld ?_ (Sur.hold_self _ _) (by omega) _ _
    exact GA.out
  · repeat refine Kept.setNew ?_ (by omega) _ _
    exact GK.out

set_option maxHeartbeats 2000000 in
set_option maxRecDepth 100000 in
theorem call_isDelim (h : LexAt w b ae ao x vd vt ve vm) (hw : x.Wf) (hm : x.multi = false) (n : Int) (hn : 0 ≤ n ∧ n ≤ 255) (p : Option Addr) (sn sc : Nat) (hno : (x.peek).err ≠ .other) :
    Calls Tryz.prog 26 #[.pointer (some ⟨b, 0, none⟩), callV 2 n (.slice p sn sc)] w fun e w' => CallDone w b ae ao (x.peek) vd vm (b01 (x.isDelim n)) e w' := by
  have H := Lib.hid h
  have hbl := h.lt
  clear h
  unfold callV
  have hs1 : ∀ o : Obj, (w.alloc o).heap.size = w.heap.size + 1 := fun o => by simp
  have hs2 : ∀ o o' : Obj, ((w.alloc o).alloc o').heap.size = w.heap.size + 1 + 1 := fun o o' => by simp
  have HS1 := Lib.hid hs1
  have HS2 := Lib.hid hs2
  clear hs1 hs2
  have ne1 : w.heap.size + 1 ≠ w.heap.size + 1 + 1 := by omega
  have ne2 : w.heap.size + 1 + 1 ≠ w.heap.size + 1 := by omega
  go_enter Tryz.func26, Tryz.ntmps26
  go_wp2_with (first
    | (go_at_call 40; refine (mark_isDelim (((H.out.alloc _).hold _).hold _) hw hm n hn p sn sc).mono ?_; intro e w1 hD0; obtain ⟨he, hD⟩ := MarkDone.split hD0; clear hD0; subst he; obtain ⟨vt1, ve1, g1, g2⟩ := hD; unfold gotV; have hG := got_heap3 g2 hbl; have u0 := cell_of_heap hG.2 0 rfl; have v0 := free_of_heap hG.2 0; have u1 := cell_of_heap hG.2 1 rfl; have v1 := free_of_heap hG.2 1; have u2 := cell_of_heap hG.2 2 rfl; have v2 := free_of_heap hG.2 2; have u3 := cell_of_heap hG.2 3 rfl; have v3 := free_of_heap hG.2 3; rw [HS1.out, HS2.out] at g1; have G1 := Lib.hid g1; have G2 := Lib.hid g2; have GH := Lib.hid hG; clear g1 g2 hG)
    | (go_at_call 28; refine (error_any (got_store G1.out G2.out hbl rfl).2.2.1).mono ?_; intro e w2 h28; obtain ⟨he, hw2⟩ := h28; subst he; have hst := got_store G1.out G2.out hbl hw2; clear hw2 G1 G2 GH; clear u0 v0; clear u1 v1; clear u2 v2; clear u3 v3; obtain ⟨hA, hB, hC, hD⟩ := hst; have y0 := cell_of_heap hA 0 rfl; have z0 := free_of_heap hA 0; have u0 := cell_of_heap hB 0 rfl; have v0 := free_of_heap hB 0; have y1 := cell_of_heap hA 1 rfl; have z1 := free_of_heap hA 1; have u1 := cell_of_heap hB 1 rfl; have v1 := free_of_heap hB 1; have y2 := cell_of_heap hA 2 rfl; have z2 := free_of_heap hA 2; have u2 := cell_of_heap hB 2 rfl; have v2 := free_of_heap hB 2; have y3 := cell_of_heap hA 3 rfl; have z3 := free_of_heap hA 3; have u3 := cell_of_heap hB 3 rfl; have v3 := free_of_heap hB 3; have HA := Lib.hid hA; have HB := Lib.hid hB; have GA := Lib.hid hC; have GK := Lib.hid hD; clear hA hB hC hD)
    | (go_at_call 35; refine (kind_any GA.out.err GA.out.env hno).mono ?_; rintro e w3 ⟨h3, rfl⟩; obtain ⟨q, hq⟩ : ∃ q : Int, q = (x.peek).err.num := ⟨_, rfl⟩; rw [← hq] at h3; subst h3; have HQ := Lib.hid hq; clear hq)
    | (go_at_call 34; refine (getPos_any GA.out).mono ?_; rintro e w4 ⟨h4, rfl⟩; obtain ⟨r, hr⟩ : ∃ r : Int, r = (x.peek).pos := ⟨_, rfl⟩; rw [← hr] at h4; subst h4; have HR := Lib.hid hr; clear hr))
  (try simp only [Exit.inBlock, Exit.then])
  refine bodyPost_ret (v := gotV (b01 (x.isDelim n)) (.slice none 0 0) q r) ?_ rfl ⟨by rw [HQ.out, HR.out], vt1, ve1, ?_, ?_⟩
  · exact results_cell_row rfl _ _ (w.heap.size + 1) 30 _ (0, 0) _ rfl (heap_setCell (heap_setCell (heap_setCell (heap_setCell ((heap_setCell_other 3 _ ne1).trans ((heap_setCell_other 2 _ ne1).trans HA.out)) 0 _) 1 _) 2 _) 3 _) Tryz.underlying30 rfl (by kernel_rfl)
  · refine LexAt.less (j := w.heap.size + 1) (LexAt.less (j := w.heap.size + 1 + 1) ?_)
    iterate 4 refine LexAt.setHeld ?_ (Sur.hold_old (Sur.hold_self _ _)) (by omega) _ _
    iterate 2 refine LexAt.setHeld ?_ (Sur.hold_self _ _) (by omega) _ _
    exact GA.out
  · repeat refine Kept.setNew ?_ (by omega) _ _
    exact GK.out

set_option maxHeartbeats 2000000 in
set_option maxRecDepth 100000 in
theorem call_null (h : LexAt w b ae ao x vd vt ve vm) (hw : x.Wf) (hm : x.multi = false) (n : Int) (p : Option Addr) (sn sc : Nat) (hno : (x.null).err ≠ .other) :
    Calls Tryz.prog 26 #[.pointer (some ⟨b, 0, none⟩), callV 3 n (.slice p sn sc)] w fun e w' => CallDone w b ae ao (x.null) vd vm (0) e w' := by
  have H := Lib.hid h
  have hbl := h.lt
  clear h
  unfold callV
  have hs1 : ∀ o : Obj, (w.alloc o).heap.size = w.heap.size + 1 := fun o => by simp
  have hs2 : ∀ o o' : Obj, ((w.alloc o).alloc o').heap.size = w.heap.size + 1 + 1 := fun o o' => by simp
  have HS1 := Lib.hid hs1
  have HS2 := Lib.hid hs2
  clear hs1 hs2
  have ne1 : w.heap.size + 1 ≠ w.heap.size + 1 + 1 := by omega
  have ne2 : w.heap.size + 1 + 1 ≠ w.heap.size + 1 := by omega
  go_enter Tryz.func26, Tryz.ntmps26
  go_wp2_with (first
    | (go_at_call 40; refine (mark_null (((H.out.alloc _).hold _).hold _) hw hm n p sn sc).mono ?_; intro e w1 hD0; obtain ⟨he, hD⟩ := MarkDone.split hD0; clear hD0; subst he; obtain ⟨vt1, ve1, g1, g2⟩ := hD; unfold gotV; have hG := got_heap3 g2 hbl; have u0 := cell_of_heap hG.2 0 rfl; have v0 := free_of_heap hG.2 0; have u1 := cell_of_heap hG.2 1 rfl; have v1 := free_of_heap hG.2 1; have u2 := cell_of_heap hG.2 2 rfl; have v2 := free_of_heap hG.2 2; have u3 := cell_of_heap hG.2 3 rfl; have v3 := free_of_heap hG.2 3; rw [HS1.out, HS2.out] at g1; have G1 := Lib.hid g1; have G2 := Lib.hid g2; have GH := Lib.hid hG; clear g1 g2 hG)
    | (go_at_call 28; refine (error_any (got_store G1.out G2.out hbl rfl).2.2.1).mono ?_; intro e w2 h28; obtain ⟨he, hw2⟩ := h28; subst he; have hst := got_store G1.out G2.out hbl hw2; clear hw2 G1 G2 GH; clear u0 v0; clear u1 v1; clear u2 v2; clear u3 v3; obtain ⟨hA, hB, hC, hD⟩ := hst; have y0 := cell_of_heap hA 0 rfl; have z0 := free_of_heap hA 0; have u0 := cell_of_heap hB 0 rfl; have v0 := free_of_heap hB 0; have y1 := cell_of_heap hA 1 rfl; have z1 := free_of_heap hA 1; have u1 := cell_of_heap hB 1 rfl; have v1 := free_of_heap hB 1; have y2 := cell_of_heap hA 2 rfl; have z2 := free_of_heap hA 2; have u2 := cell_of_heap hB 2 rfl; have v2 := free_of_heap hB 2; have y3 := cell_of_heap hA 3 rfl; have z3 := free_of_heap hA 3; have u3 := cell_of_heap hB 3 rfl; have v3 := free_of_heap hB 3; have HA := Lib.hid hA; have HB := Lib.hid hB; have GA := Lib.hid hC; have GK := Lib.hid hD; clear hA hB hC hD)
    | (go_at_call 35; refine (kind_any GA.out.err GA.out.env hno).mono ?_; rintro e w3 ⟨h3, rfl⟩; obtain ⟨q, hq⟩ : ∃ q : Int, q = (x.null).err.num := ⟨_, rfl⟩; rw [← hq] at h3; subst h3; have HQ := Lib.hid hq; clear hq)
    | (go_at_call 34; refine (getPos_any GA.out).mono ?_; rintro e w4 ⟨h4, rfl⟩; obtain ⟨r, hr⟩ : ∃ r : Int, r = (x.null).pos := ⟨_, rfl⟩; rw [← hr] at h4; subst h4; have HR := Lib.hid hr; clear hr))
  (try simp only [Exit.inBlock, Exit.then])
  refine bodyPost_ret (v := gotV (0) (.slice none 0 0) q r) ?_ rfl ⟨by rw [HQ.out, HR.out], vt1, ve1, ?_, ?_⟩
  · exact results_cell_row rfl _ _ (w.heap.size + 1) 30 _ (0, 0) _ rfl (heap_setCell (heap_setCell (heap_setCell (heap_setCell ((heap_setCell_other 3 _ ne1).trans ((heap_setCell_other 2 _ ne1).trans HA.out)) 0 _) 1 _) 2 _) 3 _) Tryz.underlying30 rfl (by kernel_rfl)
  · refine LexAt.less (j := w.heap.size + 1) (LexAt.less (j := w.heap.size + 1 + 1) ?_)
    iterate 4 refine LexAt.setHeld ?_ (Sur.hold_old (Sur.hold_self _ _)) (by omega) _ _
    iterate 2 refine LexAt.setHeld ?_ (Sur.hold_self _ _) (by omega) _ _
    exact GA.out
  · repeat refine Kept.setNew ?_ (by omega) _ _
    exact GK.out

set_option maxHeartbeats 2000000 in
set_option maxRecDepth 100000 in
theorem call_isNull (h : LexAt w b ae ao x vd vt ve vm) (hw : x.Wf) (hm : x.multi = false) (n : Int) (p : Option Addr) (sn sc : Nat) (hno : (x.peek).err ≠ .other) :
    Calls Tryz.prog 26 #[.pointer (some ⟨b, 0, none⟩), callV 4 n (.slice p sn sc)] w fun e w' => CallDone w b ae ao (x.peek) vd vm (b01 x.isNull) e w' := by
  have H := Lib.hid h
  have hbl := h.lt
  clear h
  unfold callV
  have hs1 : ∀ o : Obj, (w.alloc o).heap.size = w.heap.size + 1 := fun o => by simp
  have hs2 : ∀ o o' : Obj, ((w.alloc o).alloc o').heap.size = w.heap.size + 1 + 1 := fun o o' => by simp
  have HS1 := Lib.hid hs1
  have HS2 := Lib.hid hs2
  clear hs1 hs2
  have ne1 : w.heap.size + 1 ≠ w.heap.size + 1 + 1 := by omega
  have ne2 : w.heap.size + 1 + 1 ≠ w.heap.size + 1 := by omega
  go_enter Tryz.func26, Tryz.ntmps26
  go_wp2_with (first
    | (go_at_call 40; refine (mark_isNull (((H.out.alloc _).hold _).hold _) hw hm n p sn sc).mono ?_; intro e w1 hD0; obtain ⟨he, hD⟩ := MarkDone.split hD0; clear hD0; subst he; obtain ⟨vt1, ve1, g1, g2⟩ := hD; unfold gotV; have hG := got_heap3 g2 hbl; have u0 := cell_of_heap hG.2 0 rfl; have v0 := free_of_heap hG.2 0; have u1 := cell_of_heap hG.2 1 rfl; have v1 := free_of_heap hG.2 1; have u2 := cell_of_heap hG.2 2 rfl; have v2 := free_of_heap hG.2 2; have u3 := cell_of_heap hG.2 3 rfl; have v3 := free_of_heap hG.2 3; rw [HS1.out, HS2.out] at g1; have G1 := Lib.hid g1; have G2 := Lib.hid g2; have GH := Lib.hid hG; clear g1 g2 hG)
    | (go_at_call 28; refine (error_any (got_store G1.out G2.out hbl rfl).2.2.1).mono ?_; intro e w2 h28; obtain ⟨he, hw2⟩ := h28; subst he; have hst := got_store G1.out G2.out hbl hw2; clear hw2 G1 G2 GH; clear u0 v0; clear u1 v1; clear u2 v2; clear u3 v3; obtain ⟨hA, hB, hC, hD⟩ := hst; have y0 := cell_of_heap hA 0 rfl; have z0 := free_of_heap hA 0; have u0 := cell_of_heap hB 0 rfl; have v0 := free_of_heap hB 0; have y1 := cell_of_heap hA 1 rfl; have z1 := free_of_heap hA 1; have u1 := cell_of_heap hB 1 rfl; have v1 := free_of_heap hB 1; have y2 := cell_of_heap hA 2 rfl; have z2 := free_of_heap hA 2; have u2 := cell_of_heap hB 2 rfl; have v2 := free_of_heap hB 2; have y3 := cell_of_heap hA 3 rfl; have z3 := free_of_heap hA 3; have u3 := cell_of_heap hB 3 rfl; have v3 := free_of_heap hB 3; have HA := Lib.hid hA; have HB := Lib.hid hB; have GA := Lib.hid hC; have GK := Lib.hid hD; clear hA hB hC hD)
    | (go_at_call 35; refine (kind_any GA.out.err GA.out.env hno).mono ?_; rintro e w3 ⟨h3, rfl⟩; obtain ⟨q, hq⟩ : ∃ q : Int, q = (x.peek).err.num := ⟨_, rfl⟩; rw [← hq] at h3; subst h3; have HQ := Lib.hid hq; clear hq)
    | (go_at_call 34; refine (getPos_any GA.out).mono ?_; rintro e w4 ⟨h4, rfl⟩; obtain ⟨r, hr⟩ : ∃ r : Int, r = (x.peek).pos := ⟨_, rfl⟩; rw [← hr] at h4; subst h4; have HR := Lib.hid hr; clear hr))
  (try simp only [Exit.inBlock, Exit.then])
  refine bodyPost_ret (v := gotV (b01 x.isNull) (.slice none 0 0) q r) ?_ rfl ⟨by rw [HQ.out, HR.out], vt1, ve1, ?_, ?_⟩
  · exact results_cell_row rfl _ _ (w.heap.size + 1) 30 _ (0, 0) _ rfl (heap_setCell (heap_setCell (heap_setCell (heap_setCell ((heap_setCell_other 3 _ ne1).trans ((heap_setCell_other 2 _ ne1).trans HA.out)) 0 _) 1 _) 2 _) 3 _) Tryz.underlying30 rfl (by kernel_rfl)
  · refine LexAt.less (j := w.heap.size + 1) (LexAt.less (j := w.heap.size + 1 + 1) ?_)
    iterate 4 refine LexAt.setHeld ?_ (Sur.hold_old (Sur.hold_self _ _)) (by omega) _ _
    iterate 2 refine LexAt.setHeld ?_ (Sur.hold_self _ _) (by omega) _ _
    exact GA.out
  · repeat refine Kept.setNew ?_ (by omega) _ _
    exact GK.out

set_option maxHeartbeats 2000000 in
set_option maxRecDepth 100000 in
theorem call_current (h : LexAt w b ae ao x vd vt ve vm) (hw : x.Wf) (hm : x.multi = false) (n : Int) (hcr : x.current ≤ 255) (p : Option Addr) (sn sc : Nat) (hno : (x.peek).err ≠ .other) :
    Calls Tryz.prog 26 #[.pointer (some ⟨b, 0, none⟩), callV 42 n (.slice p sn sc)] w fun e w' => CallDone w b ae ao (x.peek) vd vm ((x.current : Int)) e w' := by
  have H := Lib.hid h
  have hbl := h.lt
  clear h
  unfold callV
  have hs1 : ∀ o : Obj, (w.alloc o).heap.size = w.heap.size + 1 := fun o => by simp
  have hs2 : ∀ o o' : Obj, ((w.alloc o).alloc o').heap.size = w.heap.size + 1 + 1 := fun o o' => by simp
  have HS1 := Lib.hid hs1
  have HS2 := Lib.hid hs2
  clear hs1 hs2
  have ne1 : w.heap.size + 1 ≠ w.heap.size + 1 + 1 := by omega
  have ne2 : w.heap.size + 1 + 1 ≠ w.heap.size + 1 := by omega
  go_enter Tryz.func26, Tryz.ntmps26
  go_wp2_with (first
    | (go_at_call 40; refine (mark_current (((H.out.alloc _).hold _).hold _) hw hm n hcr p sn sc).mono ?_; intro e w1 hD0; obtain ⟨he, hD⟩ := MarkDone.split hD0; clear hD0; subst he; obtain ⟨vt1, ve1, g1, g2⟩ := hD; unfold gotV; have hG := got_heap3 g2 hbl; have u0 := cell_of_heap hG.2 0 rfl; have v0 := free_of_heap hG.2 0; have u1 := cell_of_heap hG.2 1 rfl; have v1 := free_of_heap hG.2 1; have u2 := cell_of_heap hG.2 2 rfl; have v2 := free_of_heap hG.2 2; have u3 := cell_of_heap hG.2 3 rfl; have v3 := free_of_heap hG.2 3; rw [HS1.out, HS2.out] at g1; have G1 := Lib.hid g1; have G2 := Lib.hid g2; have GH := Lib.hid hG; clear g1 g2 hG)
    | (go_at_call 28; refine (error_any (got_store G1.out G2.out hbl rfl).2.2.1).mono ?_; intro e w2 h28; obtain ⟨he, hw2⟩ := h28; subst he; have hst := got_store G1.out G2.out hbl hw2; clear hw2 G1 G2 GH; clear u0 v0; clear u1 v1; clear u2 v2; clear u3 v3; obtain ⟨hA, hB, hC, hD⟩ := hst; have y0 := cell_of_heap hA 0 rfl; have z0 := free_of_heap hA 0; have u0 := cell_of_heap hB 0 rfl; have v0 := free_of_heap hB 0; have y1 := cell_of_heap hA 1 rfl; have z1 := free_of_heap hA 1; have u1 := cell_of_heap hB 1 rfl; have v1 := free_of_heap hB 1; have y2 := cell_of_heap hA 2 rfl; have z2 := free_of_heap hA 2; have u2 := cell_of_heap hB 2 rfl; have v2 := free_of_heap hB 2; have y3 := cell_of_heap hA 3 rfl; have z3 := free_of_heap hA 3; have u3 := cell_of_heap hB 3 rfl; have v3 := free_of_heap hB 3; have HA := Lib.hid hA; have HB := Lib.hid hB; have GA := Lib.hid hC; have GK := Lib.hid hD; clear hA hB hC hD)
    | (go_at_call 35; refine (kind_any GA.out.err GA.out.env hno).mono ?_; rintro e w3 ⟨h3, rfl⟩; obtain ⟨q, hq⟩ : ∃ q : Int, q = (x.peek).err.num := ⟨_, rfl⟩; rw [← hq] at h3; subst h3; have HQ := Lib.hid hq; clear hq)
    | (go_at_call 34; refine (getPos_any GA.out).mono ?_; rintro e w4 ⟨h4, rfl⟩; obtain ⟨r, hr⟩ : ∃ r : Int, r = (x.peek).pos := ⟨_, rfl⟩; rw [← hr] at h4; subst h4; have HR := Lib.hid hr; clear hr))
  (try simp only [Exit.inBlock, Exit.then])
  refine bodyPost_ret (v := gotV ((x.current : Int)) (.slice none 0 0) q r) ?_ rfl ⟨by rw [HQ.out, HR.out], vt1, ve1, ?_, ?_⟩
  · exact results_cell_row rfl _ _ (w.heap.size + 1) 30 _ (0, 0) _ rfl (heap_setCell (heap_setCell (heap_setCell (heap_setCell ((heap_setCell_other 3 _ ne1).trans ((heap_setCell_other 2 _ ne1).trans HA.out)) 0 _) 1 _) 2 _) 3 _) Tryz.underlying30 rfl (by kernel_rfl)
  · refine LexAt.less (j := w.heap.size + 1) (LexAt.less (j := w.heap.size + 1 + 1) ?_)
    iterate 4 refine LexAt.setHeld ?_ (Sur.hold_old (Sur.hold_self _ _)) (by omega) _ _
    iterate 2 refine LexAt.setHeld ?_ (Sur.hold_self _ _) (by omega) _ _
    exact GA.out
  · repeat refine Kept.setNew ?_ (by omega) _ _
    exact GK.out

set_option maxHeartbeats 2000000 in
set_option maxRecDepth 100000 in
theorem call_bool (h : LexAt w b ae ao x vd vt ve vm) (hw : x.Wf) (hm : x.multi = false) (n : Int) (p : Option Addr) (sn sc : Nat) (hno : (x.bool).err ≠ .other) :
    Calls Tryz.prog 26 #[.pointer (some ⟨b, 0, none⟩), callV 15 n (.slice p sn sc)] w fun e w' => CallDone w b ae ao (x.bool) vd vm (b01 x.boolV) e w' := by
  have H := Lib.hid h
  have hbl := h.lt
  clear h
  unfold callV
  have hs1 : ∀ o : Obj, (w.alloc o).heap.size = w.heap.size + 1 := fun o => by simp
  have hs2 : ∀ o o' : Obj, ((w.alloc o).alloc o').heap.size = w.heap.size + 1 + 1 := fun o o' => by simp
  have HS1 := Lib.hid hs1
  have HS2 := Lib.hid hs2
  clear hs1 hs2
  have ne1 : w.heap.size + 1 ≠ w.heap.size + 1 + 1 := by omega
  have ne2 : w.heap.size + 1 + 1 ≠ w.heap.size + 1 := by omega
  go_enter Tryz.func26, Tryz.ntmps26
  go_wp2_with (first
    | (go_at_call 37; refine (text_bool (((H.out.alloc _).hold _).hold _) hw hm n p sn sc).mono ?_; intro e w1 hD0; obtain ⟨he, hD⟩ := MarkDone.split hD0; clear hD0; subst he; obtain ⟨vt1, ve1, g1, g2⟩ := hD; unfold gotV; have hG := got_heap3 g2 hbl; have u0 := cell_of_heap hG.2 0 rfl; have v0 := free_of_heap hG.2 0; have u1 := cell_of_heap hG.2 1 rfl; have v1 := free_of_heap hG.2 1; have u2 := cell_of_heap hG.2 2 rfl; have v2 := free_of_heap hG.2 2; have u3 := cell_of_heap hG.2 3 rfl; have v3 := free_of_heap hG.2 3; rw [HS1.out, HS2.out] at g1; have G1 := Lib.hid g1; have G2 := Lib.hid g2; have GH := Lib.hid hG; clear g1 g2 hG)
    | (go_at_call 28; refine (error_any (got_store G1.out G2.out hbl rfl).2.2.1).mono ?_; intro e w2 h28; obtain ⟨he, hw2⟩ := h28; subst he; have hst := got_store G1.out G2.out hbl hw2; clear hw2 G1 G2 GH; clear u0 v0; clear u1 v1; clear u2 v2; clear u3 v3; obtain ⟨hA, hB, hC, hD⟩ := hst; have y0 := cell_of_heap hA 0 rfl; have z0 := free_of_heap hA 0; have u0 := cell_of_heap hB 0 rfl; have v0 := free_of_heap hB 0; have y1 := cell_of_heap hA 1 rfl; have z1 := free_of_heap hA 1; have u1 := cell_of_heap hB 1 rfl; have v1 := free_of_heap hB 1; have y2 := cell_of_heap hA 2 rfl; have z2 := free_of_heap hA 2; have u2 := cell_of_heap hB 2 rfl; have v2 := free_of_heap hB 2; have y3 := cell_of_heap hA 3 rfl; have z3 := free_of_heap hA 3; have u3 := cell_of_heap hB 3 rfl; have v3 := free_of_heap hB 3; have HA := Lib.hid hA; have HB := Lib.hid hB; have GA := Lib.hid hC; have GK := Lib.hid hD; clear hA hB hC hD)
    | (go_at_call 35; refine (kind_any GA.out.err GA.out.env hno).mono ?_; rintro e w3 ⟨h3, rfl⟩; obtain ⟨q, hq⟩ : ∃ q : Int, q = (x.bool).err.num := ⟨_, rfl⟩; rw [← hq] at h3; subst h3; have HQ := Lib.hid hq; clear hq)
    | (go_at_call 34; refine (getPos_any GA.out).mono ?_; rintro e w4 ⟨h4, rfl⟩; obtain ⟨r, hr⟩ : ∃ r : Int, r = (x.bool).pos := ⟨_, rfl⟩; rw [← hr] at h4; subst h4; have HR := Lib.hid hr; clear hr))
  (try simp only [Exit.inBlock, Exit.then])
  refine bodyPost_ret (v := gotV (b01 x.boolV) (.slice none 0 0) q r) ?_ rfl ⟨by rw [HQ.out, HR.out], vt1, ve1, ?_, ?_⟩
  · exact results_cell_row rfl _ _ (w.heap.size + 1) 30 _ (0, 0) _ rfl (heap_setCell (heap_setCell (heap_setCell (heap_setCell ((heap_setCell_other 3 _ ne1).trans ((heap_setCell_other 2 _ ne1).trans HA.out)) 0 _) 1 _) 2 _) 3 _) Tryz.underlying30 rfl (by kernel_rfl)
  · refine LexAt.less (j := w.heap.size + 1) (LexAt.less (j := w.heap.size + 1 + 1) ?_)
    iterate 4 refine LexAt.setHeld ?_ (Sur.hold_old (Sur.hold_self _ _)) (by omega) _ _
    iterate 2 refine LexAt.setHeld ?_ (Sur.hold_self _ _) (by omega) _ _
    exact GA.out
  · repeat refine Kept.setNew ?_ (by omega) _ _
    exact GK.out

end
end Go.Proofs.YtaecbclonmhbcaaGreatDoor
