/- impl.call, of a lexer in whatever mode. Printed by gen_mcall.py. impl.Lex, in whatever mode: the places go on and on. Rows of calls with whatever slices: where they lie, one more behind them; and the two laws that look at their sizes. The walk of FnLexStops. Printed by gen_sto.py. What the calls of a lexer stand on stays. What the calls of a lexer stand on, out of the laid data. A slice of calls that came in. -/
import Derived.Test.YtaecbclonmhbcaaGreatDoorP48
import Derived.Test.YtaecbclonmhbcaaGreatDoorP34
import Derived.Test.YtaecbclonmhbcaaGreatDoorP35
import Derived.Test.YtaecbclonmhbcaaGreatDoorP14
import Derived.Deep.LoopGhost
import Derived.Deep.CutBlock
import Derived.Deep.DeepCutAuto
import Derived.WalkMore
import Derived.Test.YtaecbclonmhbcaaGreatDoorP36
import Derived.Test.YtaecbclonmhbcaaGreatDoorP24
import Derived.Test.YtaecbclonmhbcaaGreatDoorP23
set_option linter.unusedVariables false
set_option linter.unusedSimpArgs false
namespace Go.Proofs.YtaecbclonmhbcaaGreatDoor
open Go.RowKit
def CallQ : Value → Lx → World → Value → Prop := fun r x' _ _ => ∃ (n : Int) (p : Option Addr) (k c : Nat) (q : Int), r = gotV n (.slice p k c) q x'.pos
section
variable {F : Fix} {w0 w : World} {vm0 vt ve vm : Value} {p n m : Nat} {x : Lx}
theorem call_end {k1 k2 : Nat} (h : MHeld F w0 vm0 p m [k2, k1] w x vt ve vm) (hmn : m ≤ n) (a b v0 v1 v2 v3 : Value) {N q r : Int} {P : Option Addr} {K C : Nat} (hr : r = x.pos) :
    MEnd F w0 vm0 p n CallQ (.returned (gotV N (.slice P K C) q r)) ((((((w.setCell ⟨k2, 2, none⟩ a).setCell ⟨k2, 3, none⟩ b).setCell ⟨k1, 0, none⟩ v0).setCell ⟨k1, 1, none⟩ v1).setCell ⟨k1, 2, none⟩ v2).setCell ⟨k1, 3, none⟩ v3) := by
  have m2 : k2 ∈ [k2, k1] := List.mem_cons_self
  have m1 : k1 ∈ [k2, k1] := List.mem_cons_of_mem _ List.mem_cons_self
  exact ⟨_, x, vt, ve, vm, rfl, ⟨N, P, K, C, q, by rw [hr]⟩, (((((((h.set m2 2 a).set m2 3 b).set m1 0 v0).set m1 1 v1).set m1 2 v2).set m1 3 v3).drop).le hmn⟩
theorem sets4 {k1 k2 : Nat} (h : MHeld F w0 vm0 p m [k2, k1] w x vt ve vm) {c : Array Value} {d0 d1 d2 d3 v0 v1 v2 v3 : Value} (hA : w.heap[k1]? = some (.cells c 30 (0, 0))) (hB : w.heap[k2]? = some (.cells #[d0, d1, d2, d3] 30 (0, 0))) (ne : k1 ≠ k2) {w2 : World}
    (hw : (((w.setCell ⟨k2, 0, none⟩ v0).setCell ⟨k2, 1, none⟩ v1).setCell ⟨k2, 2, none⟩ v2).setCell ⟨k2, 3, none⟩ v3 = w2) : MHeld F w0 vm0 p m [k2, k1] w2 x vt ve vm ∧ w2.heap[k1]? = some (.cells c 30 (0, 0)) ∧ w2.heap[k2]? = some (.cells #[v0, v1, v2, v3] 30 (0, 0)) := by
  subst hw
  have m2 : k2 ∈ [k2, k1] := List.mem_cons_self
  exact ⟨(((h.set m2 0 v0).set m2 1 v1).set m2 2 v2).set m2 3 v3, (heap_setCell_other _ _ ne).trans ((heap_setCell_other _ _ ne).trans ((heap_setCell_other _ _ ne).trans ((heap_setCell_other _ _ ne).trans hA))), heap_setCell (heap_setCell (heap_setCell (heap_setCell hB 0 v0) 1 v1) 2 v2) 3 v3⟩
theorem sets1 {k1 k2 : Nat} (h : MHeld F w0 vm0 p m [k2, k1] w x vt ve vm) {c : Array Value} {d0 d1 d2 d3 v0 : Value} (hA : w.heap[k1]? = some (.cells c 30 (0, 0))) (hB : w.heap[k2]? = some (.cells #[d0, d1, d2, d3] 30 (0, 0))) (ne : k1 ≠ k2) {w2 : World}
    (hw : w.setCell ⟨k2, 0, none⟩ v0 = w2) : MHeld F w0 vm0 p m [k2, k1] w2 x vt ve vm ∧ w2.heap[k1]? = some (.cells c 30 (0, 0)) ∧ w2.heap[k2]? = some (.cells #[v0, d1, d2, d3] 30 (0, 0)) := by
  subst hw
  exact ⟨h.set List.mem_cons_self 0 v0, (heap_setCell_other _ _ ne).trans hA, heap_setCell hB 0 v0⟩
theorem held_heap {o : Obj} {c c' : Array Value} : (((w.alloc o).alloc (.cells c 30)).alloc (.cells c' 30)).heap[w.heap.size + 1]? = some (.cells c 30 (0, 0)) ∧ (((w.alloc o).alloc (.cells c 30)).alloc (.cells c' 30)).heap[w.heap.size + 1 + 1]? = some (.cells c' 30 (0, 0)) := by
  have hs : (w.alloc o).heap.size = w.heap.size + 1 := by simp
  have hs' : ((w.alloc o).alloc (.cells c 30)).heap.size = w.heap.size + 1 + 1 := by simp
  refine ⟨?_, ?_⟩
  · rw [heap_alloc_lt (by rw [hs']; omega), ← hs]
    exact heap_alloc_new (w.alloc o) (.cells c 30)
  · rw [← hs']; exact heap_alloc_new _ _
set_option maxHeartbeats 4000000 in
set_option maxRecDepth 100000 in
theorem callM_small (h : MSt F w0 vm0 p n w x vt ve vm) (hn : n ≤ 999999) (op : Int) (hop : op < 10) (h9 : op = 9 → F.g → F.mu = false) (nn : Int) (pp : Option Addr) (sn sc : Nat) :
    Calls Tryz.prog 26 #[.pointer (some ⟨F.b, 0, none⟩), callV op nn (.slice pp sn sc)] w (MEnd F w0 vm0 p (n + 2) CallQ) := by
  have H := Lib.hid h
  have hbl := h.lx.lt
  have g10 : ¬ (10 : Int) ≤ op := by omega
  have g16 : ¬ (16 : Int) ≤ op := by omega
  have g28 : ¬ (28 : Int) ≤ op := by omega
  have H9 := Lib.hid h9
  clear h9
  clear h
  unfold callV
  have hs1 : ∀ o : Obj, (w.alloc o).heap.size = w.heap.size + 1 := fun o => by simp
  have hs2 : ∀ o o' : Obj, ((w.alloc o).alloc o').heap.size = w.heap.size + 1 + 1 := fun o o' => by simp
  have HS1 := Lib.hid hs1
  have HS2 := Lib.hid hs2
  clear hs1 hs2
  have ne1 : w.heap.size + 1 ≠ w.heap.size + 1 + 1 := by omega
  have ne2 : w.heap.size + 1 + 1 ≠ w.heap.size + 1 := by omega
  go_enter Tryz.func26, Tryz.ntmps26
  go_wp2_with (first
    | (go_at_call 40; refine (markM ((((MHeld.nil H.out).alloc _).hold _).hold _).st.start hn op H9.out nn pp sn sc).mono ?_; rintro e w1 ⟨r1, x1, vt1, ve1, vm1, rfl, ⟨n', sp, sk, sc', rfl⟩, g1⟩; unfold gotV; obtain ⟨hm, hb⟩ := MHeld.call ((((MHeld.nil H.out).alloc _).hold _).hold _) g1; rw [HS1.out, HS2.out] at hm hb; have hA := (hb _ (List.mem_cons_of_mem _ List.mem_cons_self)).trans held_heap.1; have hB := (hb _ List.mem_cons_self).trans held_heap.2; clear hb g1; have u0 := cell_of_heap hB 0 rfl; have v0 := free_of_heap hB 0; have u1 := cell_of_heap hB 1 rfl; have v1 := free_of_heap hB 1; have u2 := cell_of_heap hB 2 rfl; have v2 := free_of_heap hB 2; have u3 := cell_of_heap hB 3 rfl; have v3 := free_of_heap hB 3; have HM := Lib.hid hm; have HA := Lib.hid hA; have HB := Lib.hid hB; clear hm hA hB)
    | (go_at_call 28; refine (error_any ((((HM.out.set List.mem_cons_self 0 _).set List.mem_cons_self 1 _).set List.mem_cons_self 2 _).set List.mem_cons_self 3 _).st.lx).mono ?_; rintro e w2 ⟨he, hw2⟩; subst he; have hst := sets4 HM.out HA.out HB.out ne1 hw2; clear hw2 HM HA HB; clear u0 v0; clear u1 v1; clear u2 v2; clear u3 v3; obtain ⟨hm2, hA2, hB2⟩ := hst; have y0 := cell_of_heap hA2 0 rfl; have z0 := free_of_heap hA2 0; have y1 := cell_of_heap hA2 1 rfl; have z1 := free_of_heap hA2 1; have y2 := cell_of_heap hA2 2 rfl; have z2 := free_of_heap hA2 2; have y3 := cell_of_heap hA2 3 rfl; have z3 := free_of_heap hA2 3; have u0 := cell_of_heap hB2 0 rfl; have v0 := free_of_heap hB2 0; have u1 := cell_of_heap hB2 1 rfl; have v1 := free_of_heap hB2 1; have u2 := cell_of_heap hB2 2 rfl; have v2 := free_of_heap hB2 2; have u3 := cell_of_heap hB2 3 rfl; have v3 := free_of_heap hB2 3; have HM2 := Lib.hid hm2; have HA2 := Lib.hid hA2; have HB2 := Lib.hid hB2; clear hm2 hA2 hB2)
    | (go_at_call 35; refine (kind_all HM2.out.st.lx.err HM2.out.st.lx.env HM2.out.st.nm.errB).mono ?_; rintro e w3 ⟨h3, rfl⟩; obtain ⟨q, hq⟩ : ∃ q : Int, q = x1.err.num := ⟨_, rfl⟩; rw [← hq] at h3; subst h3; clear hq)
    | (go_at_call 34; refine (getPos_any HM2.out.st.lx).mono ?_; rintro e w4 ⟨h4, rfl⟩; obtain ⟨r, hr⟩ : ∃ r : Int, r = x1.pos := ⟨_, rfl⟩; rw [← hr] at h4; subst h4; have HR := Lib.hid hr; clear hr))
  (try simp only [Exit.inBlock, Exit.then])
  refine bodyPost_ret (v := gotV n' (.slice sp sk sc') q r) ?_ rfl ?_
  · exact results_cell_row rfl _ _ (w.heap.size + 1) 30 _ (0, 0) _ rfl (heap_setCell (heap_setCell (heap_setCell (heap_setCell ((heap_setCell_other 3 _ ne1).trans ((heap_setCell_other 2 _ ne1).trans HA2.out)) 0 _) 1 _) 2 _) 3 _) Tryz.underlying30 rfl (by kernel_rfl)
  · exact call_end HM2.out (by omega) _ _ _ _ _ _ HR.out
set_option maxHeartbeats 4000000 in
set_option maxRecDepth 100000 in
theorem callM_big (h : MSt F w0 vm0 p n w x vt ve vm) (hn : n ≤ 999999) (op : Int) (hop : 39 < op) (nn : Int) (pp : Option Addr) (sn sc : Nat) :
    Calls Tryz.prog 26 #[.pointer (some ⟨F.b, 0, none⟩), callV op nn (.slice pp sn sc)] w (MEnd F w0 vm0 p (n + 2) CallQ) := by
  have H := Lib.hid h
  have hbl := h.lx.lt
  have g10 : (10 : Int) ≤ op := by omega
  have g15 : ¬ op ≤ 15 := by omega
  have g16 : (16 : Int) ≤ op := by omega
  have g27 : ¬ op ≤ 27 := by omega
  have g28 : (28 : Int) ≤ op := by omega
  have g39 : ¬ op ≤ 39 := by omega
  clear h
  unfold callV
  have hs1 : ∀ o : Obj, (w.alloc o).heap.size = w.heap.size + 1 := fun o => by simp
  have hs2 : ∀ o o' : Obj, ((w.alloc o).alloc o').heap.size = w.heap.size + 1 + 1 := fun o o' => by simp
  have HS1 := Lib.hid hs1
  have HS2 := Lib.hid hs2
  clear hs1 hs2
  have ne1 : w.heap.size + 1 ≠ w.heap.size + 1 + 1 := by omega
  have ne2 : w.heap.size + 1 + 1 ≠ w.heap.size + 1 := by omega
  go_enter Tryz.func26, Tryz.ntmps26
  go_wp2_with (first
    | (go_at_call 40; refine (markM ((((MHeld.nil H.out).alloc _).hold _).hold _).st.start hn op (fun e => absurd e (by omega)) nn pp sn sc).mono ?_; rintro e w1 ⟨r1, x1, vt1, ve1, vm1, rfl, ⟨n', sp, sk, sc', rfl⟩, g1⟩; unfold gotV; obtain ⟨hm, hb⟩ := MHeld.call ((((MHeld.nil H.out).alloc _).hold _).hold _) g1; rw [HS1.out, HS2.out] at hm hb; have hA := (hb _ (List.mem_cons_of_mem _ List.mem_cons_self)).trans held_heap.1; have hB := (hb _ List.mem_cons_self).trans held_heap.2; clear hb g1; have u0 := cell_of_heap hB 0 rfl; have v0 := free_of_heap hB 0; have u1 := cell_of_heap hB 1 rfl; have v1 := free_of_heap hB 1; have u2 := cell_of_heap hB 2 rfl; have v2 := free_of_heap hB 2; have u3 := cell_of_heap hB 3 rfl; have v3 := free_of_heap hB 3; have HM := Lib.hid hm; have HA := Lib.hid hA; have HB := Lib.hid hB; clear hm hA hB)
    | (go_at_call 28; refine (error_any ((((HM.out.set List.mem_cons_self 0 _).set List.mem_cons_self 1 _).set List.mem_cons_self 2 _).set List.mem_cons_self 3 _).st.lx).mono ?_; rintro e w2 ⟨he, hw2⟩; subst he; have hst := sets4 HM.out HA.out HB.out ne1 hw2; clear hw2 HM HA HB; clear u0 v0; clear u1 v1; clear u2 v2; clear u3 v3; obtain ⟨hm2, hA2, hB2⟩ := hst; have y0 := cell_of_heap hA2 0 rfl; have z0 := free_of_heap hA2 0; have y1 := cell_of_heap hA2 1 rfl; have z1 := free_of_heap hA2 1; have y2 := cell_of_heap hA2 2 rfl; have z2 := free_of_heap hA2 2; have y3 := cell_of_heap hA2 3 rfl; have z3 := free_of_heap hA2 3; have u0 := cell_of_heap hB2 0 rfl; have v0 := free_of_heap hB2 0; have u1 := cell_of_heap hB2 1 rfl; have v1 := free_of_heap hB2 1; have u2 := cell_of_heap hB2 2 rfl; have v2 := free_of_heap hB2 2; have u3 := cell_of_heap hB2 3 rfl; have v3 := free_of_heap hB2 3; have HM2 := Lib.hid hm2; have HA2 := Lib.hid hA2; have HB2 := Lib.hid hB2; clear hm2 hA2 hB2)
    | (go_at_call 35; refine (kind_all HM2.out.st.lx.err HM2.out.st.lx.env HM2.out.st.nm.errB).mono ?_; rintro e w3 ⟨h3, rfl⟩; obtain ⟨q, hq⟩ : ∃ q : Int, q = x1.err.num := ⟨_, rfl⟩; rw [← hq] at h3; subst h3; clear hq)
    | (go_at_call 34; refine (getPos_any HM2.out.st.lx).mono ?_; rintro e w4 ⟨h4, rfl⟩; obtain ⟨r, hr⟩ : ∃ r : Int, r = x1.pos := ⟨_, rfl⟩; rw [← hr] at h4; subst h4; have HR := Lib.hid hr; clear hr))
  (try simp only [Exit.inBlock, Exit.then])
  refine bodyPost_ret (v := gotV n' (.slice sp sk sc') q r) ?_ rfl ?_
  · exact results_cell_row rfl _ _ (w.heap.size + 1) 30 _ (0, 0) _ rfl (heap_setCell (heap_setCell (heap_setCell (heap_setCell ((heap_setCell_other 3 _ ne1).trans ((heap_setCell_other 2 _ ne1).trans HA2.out)) 0 _) 1 _) 2 _) 3 _) Tryz.underlying30 rfl (by kernel_rfl)
  · exact call_end HM2.out (by omega) _ _ _ _ _ _ HR.out
set_option maxHeartbeats 4000000 in
set_option maxRecDepth 100000 in
theorem callM_text (h : MSt F w0 vm0 p n w x vt ve vm) (hn : n ≤ 999999) (op : Int) (hop : 10 ≤ op) (hop2 : op ≤ 15) (nn : Int) (pp : Option Addr) (sn sc : Nat) :
    Calls Tryz.prog 26 #[.pointer (some ⟨F.b, 0, none⟩), callV op nn (.slice pp sn sc)] w (MEnd F w0 vm0 p (n + 2) CallQ) := by
  have H := Lib.hid h
  have hbl := h.lx.lt
  clear h
  unfold callV
  have hs1 : ∀ o : Obj, (w.alloc o).heap.size = w.heap.size + 1 := fun o => by simp
  have hs2 : ∀ o o' : Obj, ((w.alloc o).alloc o').heap.size = w.heap.size + 1 + 1 := fun o o' => by simp
  have HS1 := Lib.hid hs1
  have HS2 := Lib.hid hs2
  clear hs1 hs2
  have ne1 : w.heap.size + 1 ≠ w.heap.size + 1 + 1 := by omega
  have ne2 : w.heap.size + 1 + 1 ≠ w.heap.size + 1 := by omega
  go_enter Tryz.func26, Tryz.ntmps26
  go_wp2_with (first
    | (go_at_call 37; refine (textM ((((MHeld.nil H.out).alloc _).hold _).hold _).st.start hn op hop hop2 nn pp sn sc).mono ?_; rintro e w1 ⟨r1, x1, vt1, ve1, vm1, rfl, ⟨n', sp, sk, sc', rfl⟩, g1⟩; unfold gotV; obtain ⟨hm, hb⟩ := MHeld.call ((((MHeld.nil H.out).alloc _).hold _).hold _) g1; rw [HS1.out, HS2.out] at hm hb; have hA := (hb _ (List.mem_cons_of_mem _ List.mem_cons_self)).trans held_heap.1; have hB := (hb _ List.mem_cons_self).trans held_heap.2; clear hb g1; have u0 := cell_of_heap hB 0 rfl; have v0 := free_of_heap hB 0; have u1 := cell_of_heap hB 1 rfl; have v1 := free_of_heap hB 1; have u2 := cell_of_heap hB 2 rfl; have v2 := free_of_heap hB 2; have u3 := cell_of_heap hB 3 rfl; have v3 := free_of_heap hB 3; have HM := Lib.hid hm; have HA := Lib.hid hA; have HB := Lib.hid hB; clear hm hA hB)
    | (go_at_call 28; refine (error_any ((((HM.out.set List.mem_cons_self 0 _).set List.mem_cons_self 1 _).set List.mem_cons_self 2 _).set List.mem_cons_self 3 _).st.lx).mono ?_; rintro e w2 ⟨he, hw2⟩; subst he; have hst := sets4 HM.out HA.out HB.out ne1 hw2; clear hw2 HM HA HB; clear u0 v0; clear u1 v1; clear u2 v2; clear u3 v3; obtain ⟨hm2, hA2, hB2⟩ := hst; have y0 := cell_of_heap hA2 0 rfl; have z0 := free_of_heap hA2 0; have y1 := cell_of_heap hA2 1 rfl; have z1 := free_of_heap hA2 1; have y2 := cell_of_heap hA2 2 rfl; have z2 := free_of_heap hA2 2; have y3 := cell_of_heap hA2 3 rfl; have z3 := free_of_heap hA2 3; have u0 := cell_of_heap hB2 0 rfl; have v0 := free_of_heap hB2 0; have u1 := cell_of_heap hB2 1 rfl; have v1 := free_of_heap hB2 1; have u2 := cell_of_heap hB2 2 rfl; have v2 := free_of_heap hB2 2; have u3 := cell_of_heap hB2 3 rfl; have v3 := free_of_heap hB2 3; have HM2 := Lib.hid hm2; have HA2 := Lib.hid hA2; have HB2 := Lib.hid hB2; clear hm2 hA2 hB2)
    | (go_at_call 35; refine (kind_all HM2.out.st.lx.err HM2.out.st.lx.env HM2.out.st.nm.errB).mono ?_; rintro e w3 ⟨h3, rfl⟩; obtain ⟨q, hq⟩ : ∃ q : Int, q = x1.err.num := ⟨_, rfl⟩; rw [← hq] at h3; subst h3; clear hq)
    | (go_at_call 34; refine (getPos_any HM2.out.st.lx).mono ?_; rintro e w4 ⟨h4, rfl⟩; obtain ⟨r, hr⟩ : ∃ r : Int, r = x1.pos := ⟨_, rfl⟩; rw [← hr] at h4; subst h4; have HR := Lib.hid hr; clear hr))
  (try simp only [Exit.inBlock, Exit.then])
  refine bodyPost_ret (v := gotV n' (.slice sp sk sc') q r) ?_ rfl ?_
  · exact results_cell_row rfl _ _ (w.heap.size + 1) 30 _ (0, 0) _ rfl (heap_setCell (heap_setCell (heap_setCell (heap_setCell ((heap_setCell_other 3 _ ne1).trans ((heap_setCell_other 2 _ ne1).trans HA2.out)) 0 _) 1 _) 2 _) 3 _) Tryz.underlying30 rfl (by kernel_rfl)
  · exact call_end HM2.out (by omega) _ _ _ _ _ _ HR.out
set_option maxHeartbeats 4000000 in
set_option maxRecDepth 100000 in
theorem callM_number (h : MSt F w0 vm0 p n w x vt ve vm) (hn : n ≤ 999999) (op : Int) (hop : 16 ≤ op) (hop2 : op ≤ 27) (nn : Int) (pp : Option Addr) (sn sc : Nat) :
    Calls Tryz.prog 26 #[.pointer (some ⟨F.b, 0, none⟩), callV op nn (.slice pp sn sc)] w (MEnd F w0 vm0 p (n + 2) CallQ) := by
  have H := Lib.hid h
  have hbl := h.lx.lt
  have g10 : (10 : Int) ≤ op := by omega
  have g15 : ¬ op ≤ 15 := by omega
  clear h
  unfold callV
  have hs1 : ∀ o : Obj, (w.alloc o).heap.size = w.heap.size + 1 := fun o => by simp
  have hs2 : ∀ o o' : Obj, ((w.alloc o).alloc o').heap.size = w.heap.size + 1 + 1 := fun o o' => by simp
  have HS1 := Lib.hid hs1
  have HS2 := Lib.hid hs2
  clear hs1 hs2
  have ne1 : w.heap.size + 1 ≠ w.heap.size + 1 + 1 := by omega
  have ne2 : w.heap.size + 1 + 1 ≠ w.heap.size + 1 := by omega
  go_enter Tryz.func26, Tryz.ntmps26
  go_wp2_with (first
    | (go_at_call 38; refine (numberOpM ((((MHeld.nil H.out).alloc _).hold _).hold _).st.start hn op hop hop2).mono ?_; rintro e w1 ⟨r1, x1, vt1, ve1, vm1, rfl, ⟨n', rfl⟩, g1⟩; obtain ⟨hm, hb⟩ := MHeld.call ((((MHeld.nil H.out).alloc _).hold _).hold _) g1; rw [HS1.out, HS2.out] at hm hb; have hA := (hb _ (List.mem_cons_of_mem _ List.mem_cons_self)).trans held_heap.1; have hB := (hb _ List.mem_cons_self).trans held_heap.2; clear hb g1; have u0 := cell_of_heap hB 0 rfl; have v0 := free_of_heap hB 0; have u1 := cell_of_heap hB 1 rfl; have v1 := free_of_heap hB 1; have u2 := cell_of_heap hB 2 rfl; have v2 := free_of_heap hB 2; have u3 := cell_of_heap hB 3 rfl; have v3 := free_of_heap hB 3; have HM := Lib.hid hm; have HA := Lib.hid hA; have HB := Lib.hid hB; clear hm hA hB)
    | (go_at_call 28; refine (error_any (HM.out.set List.mem_cons_self 0 _).st.lx).mono ?_; rintro e w2 ⟨he, hw2⟩; subst he; have hst := sets1 HM.out HA.out HB.out ne1 hw2; clear hw2 HM HA HB; clear u0 v0; clear u1 v1; clear u2 v2; clear u3 v3; obtain ⟨hm2, hA2, hB2⟩ := hst; have y0 := cell_of_heap hA2 0 rfl; have z0 := free_of_heap hA2 0; have y1 := cell_of_heap hA2 1 rfl; have z1 := free_of_heap hA2 1; have y2 := cell_of_heap hA2 2 rfl; have z2 := free_of_heap hA2 2; have y3 := cell_of_heap hA2 3 rfl; have z3 := free_of_heap hA2 3; have u0 := cell_of_heap hB2 0 rfl; have v0 := free_of_heap hB2 0; have u1 := cell_of_heap hB2 1 rfl; have v1 := free_of_heap hB2 1; have u2 := cell_of_heap hB2 2 rfl; have v2 := free_of_heap hB2 2; have u3 := cell_of_heap hB2 3 rfl; have v3 := free_of_heap hB2 3; have HM2 := Lib.hid hm2; have HA2 := Lib.hid hA2; have HB2 := Lib.hid hB2; clear hm2 hA2 hB2)
    | (go_at_call 35; refine (kind_all HM2.out.st.lx.err HM2.out.st.lx.env HM2.out.st.nm.errB).mono ?_; rintro e w3 ⟨h3, rfl⟩; obtain ⟨q, hq⟩ : ∃ q : Int, q = x1.err.num := ⟨_, rfl⟩; rw [← hq] at h3; subst h3; clear hq)
    | (go_at_call 34; refine (getPos_any HM2.out.st.lx).mono ?_; rintro e w4 ⟨h4, rfl⟩; obtain ⟨r, hr⟩ : ∃ r : Int, r = x1.pos := ⟨_, rfl⟩; rw [← hr] at h4; subst h4; have HR := Lib.hid hr; clear hr))
  (try simp only [Exit.inBlock, Exit.then])
  refine bodyPost_ret (v := gotV n' (.slice none 0 0) q r) ?_ rfl ?_
  · exact results_cell_row rfl _ _ (w.heap.size + 1) 30 _ (0, 0) _ rfl (heap_setCell (heap_setCell (heap_setCell (heap_setCell ((heap_setCell_other 3 _ ne1).trans ((heap_setCell_other 2 _ ne1).trans HA2.out)) 0 _) 1 _) 2 _) 3 _) Tryz.underlying30 rfl (by kernel_rfl)
  · exact call_end HM2.out (by omega) _ _ _ _ _ _ HR.out
set_option maxHeartbeats 4000000 in
set_option maxRecDepth 100000 in
theorem callM_quoted (h : MSt F w0 vm0 p n w x vt ve vm) (hn : n ≤ 999999) (op : Int) (hop : 28 ≤ op) (hop2 : op ≤ 39) (nn : Int) (pp : Option Addr) (sn sc : Nat) :
    Calls Tryz.prog 26 #[.pointer (some ⟨F.b, 0, none⟩), callV op nn (.slice pp sn sc)] w (MEnd F w0 vm0 p (n + 2) CallQ) := by
  have H := Lib.hid h
  have hbl := h.lx.lt
  have g10 : (10 : Int) ≤ op := by omega
  have g15 : ¬ op ≤ 15 := by omega
  have g16 : (16 : Int) ≤ op := by omega
  have g27 : ¬ op ≤ 27 := by omega
  clear h
  unfold callV
  have hs1 : ∀ o : Obj, (w.alloc o).heap.size = w.heap.size + 1 := fun o => by simp
  have hs2 : ∀ o o' : Obj, ((w.alloc o).alloc o').heap.size = w.heap.size + 1 + 1 := fun o o' => by simp
  have HS1 := Lib.hid hs1
  have HS2 := Lib.hid hs2
  clear hs1 hs2
  have ne1 : w.heap.size + 1 ≠ w.heap.size + 1 + 1 := by omega
  have ne2 : w.heap.size + 1 + 1 ≠ w.heap.size + 1 := by omega
  go_enter Tryz.func26, Tryz.ntmps26
  go_wp2_with (first
    | (go_at_call 39; refine (quotedOpM ((((MHeld.nil H.out).alloc _).hold _).hold _).st.start hn op hop hop2).mono ?_; rintro e w1 ⟨r1, x1, vt1, ve1, vm1, rfl, ⟨n', rfl⟩, g1⟩; obtain ⟨hm, hb⟩ := MHeld.call ((((MHeld.nil H.out).alloc _).hold _).hold _) g1; rw [HS1.out, HS2.out] at hm hb; have hA := (hb _ (List.mem_cons_of_mem _ List.mem_cons_self)).trans held_heap.1; have hB := (hb _ List.mem_cons_self).trans held_heap.2; clear hb g1; have u0 := cell_of_heap hB 0 rfl; have v0 := free_of_heap hB 0; have u1 := cell_of_heap hB 1 rfl; have v1 := free_of_heap hB 1; have u2 := cell_of_heap hB 2 rfl; have v2 := free_of_heap hB 2; have u3 := cell_of_heap hB 3 rfl; have v3 := free_of_heap hB 3; have HM := Lib.hid hm; have HA := Lib.hid hA; have HB := Lib.hid hB; clear hm hA hB)
    | (go_at_call 28; refine (error_any (HM.out.set List.mem_cons_self 0 _).st.lx).mono ?_; rintro e w2 ⟨he, hw2⟩; subst he; have hst := sets1 HM.out HA.out HB.out ne1 hw2; clear hw2 HM HA HB; clear u0 v0; clear u1 v1; clear u2 v2; clear u3 v3; obtain ⟨hm2, hA2, hB2⟩ := hst; have y0 := cell_of_heap hA2 0 rfl; have z0 := free_of_heap hA2 0; have y1 := cell_of_heap hA2 1 rfl; have z1 := free_of_heap hA2 1; have y2 := cell_of_heap hA2 2 rfl; have z2 := free_of_heap hA2 2; have y3 := cell_of_heap hA2 3 rfl; have z3 := free_of_heap hA2 3; have u0 := cell_of_heap hB2 0 rfl; have v0 := free_of_heap hB2 0; have u1 := cell_of_heap hB2 1 rfl; have v1 := free_of_heap hB2 1; have u2 := cell_of_heap hB2 2 rfl; have v2 := free_of_heap hB2 2; have u3 := cell_of_heap hB2 3 rfl; have v3 := free_of_heap hB2 3; have HM2 := Lib.hid hm2; have HA2 := Lib.hid hA2; have HB2 := Lib.hid hB2; clear hm2 hA2 hB2)
    | (go_at_call 35; refine (kind_all HM2.out.st.lx.err HM2.out.st.lx.env HM2.out.st.nm.errB).mono ?_; rintro e w3 ⟨h3, rfl⟩; obtain ⟨q, hq⟩ : ∃ q : Int, q = x1.err.num := ⟨_, rfl⟩; rw [← hq] at h3; subst h3; clear hq)
    | (go_at_call 34; refine (getPos_any HM2.out.st.lx).mono ?_; rintro e w4 ⟨h4, rfl⟩; obtain ⟨r, hr⟩ : ∃ r : Int, r = x1.pos := ⟨_, rfl⟩; rw [← hr] at h4; subst h4; have HR := Lib.hid hr; clear hr))
  (try simp only [Exit.inBlock, Exit.then])
  refine bodyPost_ret (v := gotV n' (.slice none 0 0) q r) ?_ rfl ?_
  · exact results_cell_row rfl _ _ (w.heap.size + 1) 30 _ (0, 0) _ rfl (heap_setCell (heap_setCell (heap_setCell (heap_setCell ((heap_setCell_other 3 _ ne1).trans ((heap_setCell_other 2 _ ne1).trans HA2.out)) 0 _) 1 _) 2 _) 3 _) Tryz.underlying30 rfl (by kernel_rfl)
  · exact call_end HM2.out (by omega) _ _ _ _ _ _ HR.out
theorem callM (h : MSt F w0 vm0 p n w x vt ve vm) (hn : n ≤ 999999) (op : Int) (h9 : op = 9 → F.g → F.mu = false) (nn : Int) (pp : Option Addr) (sn sc : Nat) :
    Calls Tryz.prog 26 #[.pointer (some ⟨F.b, 0, none⟩), callV op nn (.slice pp sn sc)] w (MEnd F w0 vm0 p (n + 2) CallQ) := by
  by_cases h1 : op < 10
  · exact callM_small h hn op h1 h9 nn pp sn sc
  by_cases h2 : op ≤ 15
  · exact callM_text h hn op (by omega) h2 nn pp sn sc
  by_cases h3 : op ≤ 27
  · exact callM_number h hn op (by omega) h3 nn pp sn sc
  by_cases h4 : op ≤ 39
  · exact callM_quoted h hn op (by omega) h4 nn pp sn sc
  · exact callM_big h hn op (by omega) nn pp sn sc
end
end Go.Proofs.YtaecbclonmhbcaaGreatDoor

namespace Go.Proofs.YtaecbclonmhbcaaGreatDoor
open Go.RowKit
structure Ground (w : World) (ae ao : Addr) : Prop where
  env : Env w ⟨ae, fun _ => False⟩ ao
  two : 1 < w.heap.size
  tabs : Tabs w
  ho : ∃ ca ta, w.heap[ao.block]? = some (.cells ca ta (0, 0))
  he : ∃ ca ta, w.heap[ae.block]? = some (.cells ca ta (0, 0))
  text : ∃ t : ByteArray, t.size ≤ 1000 ∧ w.cell? ao = some (.string t)
def FixOf (b : Nat) (ae ao : Addr) (l : List Int) (mu : Bool) (vd v : Value) (g : Prop) : Fix := ⟨b, Sur.own ⟨ae, fun _ => False⟩ v, ao, l, mu, vd, g⟩
theorem begin_st {w w1 : World} {ae ao : Addr} {l : List Int} {mu : Bool} {b : Nat} {vd : Value} (hG : Ground w ae ao) (hl : l.length ≤ 100000) (hby : Bytes l) (hb : w.heap.size ≤ b) (hg : w.grownBy w1 none)
    (hlx : LexAt w1 b ⟨ae, fun _ => False⟩ ao (Lx.begin l mu) vd (.slice none 0 0) .nilIface (.slice none 0 0)) (g : Prop) :
    MSt (FixOf b ae ao l mu vd (.slice none 0 0) g) w1 (.slice none 0 0) 0 0 w1 (Lx.begin l mu) (.slice none 0 0) .nilIface (.slice none 0 0) := by
  have hk : ∀ j, j < w.heap.size → w1.heap[j]? = w.heap[j]? := fun j hj => hg.block j hj (by simp)
  obtain ⟨ca, ta, h1⟩ := hG.ho
  obtain ⟨cb, tb, h2⟩ := hG.he
  obtain ⟨t, ht, h3⟩ := hG.text
  have hlo := lt_heap h1
  have hle := lt_heap h2
  refine ⟨⟨hlx.move (grownBy_self (r := none) w1) (by simp) rfl ?_ ?_, ⟨[], World.ownsRow_nil _ _ _ _, fun j hj => absurd hj (Nat.not_lt_zero j)⟩⟩, .refl _ _ _, ?_, ⟨w, hG.tabs, hb, ⟨hg.os, hg.tape, hg.output, hg.size, hk⟩⟩, ?_, fun _ => ⟨Nat.le_refl _, fun _ e => absurd rfl e⟩⟩
  · rintro k hk (e | e | e)
    · exact .inl e
    · cases e
    · cases e
  · rintro k (e | e) <;> cases e
  · exact ⟨rfl, rfl, ⟨by show l.length ≤ _; omega, Nat.zero_le _, Nat.le_refl _, hby⟩, by show (0 : Nat) ≤ 5; decide, tf_kind (by show (0 : Nat) ≠ 2 ∧ (0 : Nat) ≠ 3; decide), nf_kind (by show (0 : Nat) ≠ 3; decide), hl, (fun o e => by cases e), (fun o e => by cases e), Nat.le_refl _⟩
  · exact ⟨Nat.lt_of_lt_of_le hlo hb, Nat.lt_of_lt_of_le hle hb, ⟨ca, ta, (hk _ hlo).trans h1⟩, ⟨cb, tb, (hk _ hle).trans h2⟩, ⟨t, ht, by rw [← h3]; show w1.cell? ao = w.cell? ao; unfold World.cell?; rw [hk _ hlo]⟩⟩
section
variable {F : Fix} {w0 w u : World} {vm0 vt ve vm : Value} {p n : Nat} {x : Lx}
theorem KeptM.low {b B : Nat} {vm vm' : Value} {w w' : World} (h : KeptM b vm vm' w w') (hB : B ≤ b) (hs : B ≤ w.heap.size) (hr : ∀ k, vm.ownBlock = some k → b < k) : Below B w w' :=
  ⟨h.os, h.tape, h.output, h.size, fun j hj => h.block j (by omega) (by omega) (fun e => by have := hr j e; omega)⟩
def UpTo (q : Nat) (gs : List Gt) : Prop := ∃ ps : List Nat, gs.map (·.2.2.2) = ps.map (fun k : Nat => (k : Int)) ∧ ps.Pairwise (· ≤ ·) ∧ ∀ k ∈ ps, k ≤ q
theorem UpTo.nil (q : Nat) : UpTo q [] := ⟨[], rfl, List.Pairwise.nil, fun _ h => by cases h⟩
theorem UpTo.snoc {q q' : Nat} {gs : List Gt} (h : UpTo q gs) (hq : q ≤ q') {n : Int} {s : Value} {e : Int} : UpTo q' (gs ++ [(n, s, e, (q' : Int))]) := by
  obtain ⟨ps, h1, h2, h3⟩ := h
  refine ⟨ps ++ [q'], by simp [h1], ?_, fun k hk => ?_⟩
  · rw [List.pairwise_append]
    exact ⟨h2, List.pairwise_singleton _ _, fun a ha c hc => by rw [List.mem_singleton] at hc; subst hc; exact Nat.le_trans (h3 a ha) hq⟩
  · rw [List.mem_append, List.mem_singleton] at hk
    rcases hk with hk | rfl
    · exact Nat.le_trans (h3 k hk) hq
    · exact Nat.le_refl _
end
end Go.Proofs.YtaecbclonmhbcaaGreatDoor

namespace Go.Proofs.YtaecbclonmhbcaaGreatDoor
open Go.RowKit
abbrev Cl := Int × Int × Value
def dC : Cl := (0, 0, .nilIface)
def clVs (l : List Cl) : List Value := l.flatMap fun c => [.int .i64 c.1, .int .i64 c.2.1, c.2.2]
def ClS (l : List Cl) : Prop := ∀ c ∈ l, ∃ (p : Option Addr) (n m : Nat), c.2.2 = .slice p n m
theorem ClS.at {l : List Cl} (h : ClS l) {k : Nat} (hk : k < l.length) : ∃ (p : Option Addr) (n m : Nat), (l.getD k dC).2.2 = .slice p n m := h _ (by simp [List.getD, hk])
def CallsArg (w : World) (pv : Option Addr) (cs : List Cl) : Prop := 0 < cs.length → ∃ cb co, pv = some ⟨cb, co, none⟩ ∧ cb < w.heap.size ∧ CallsIn w cb co cs
theorem CallsIn.below {w w' : World} {cb co B : Nat} {cs : List Cl} (h : CallsIn w cb co cs) (hb : Below B w w') (hB : cb < B) : CallsIn w' cb co cs := fun k hk => by
  obtain ⟨p, n, m, h1, h2, h3, h4⟩ := h k hk
  exact ⟨p, n, m, h1, (hb.cell (p := ⟨cb, co + k * 3, none⟩) hB).trans h2, (hb.cell (p := ⟨cb, co + k * 3 + 1, none⟩) hB).trans h3, (hb.cell (p := ⟨cb, co + k * 3 + 2, none⟩) hB).trans h4⟩
def BoolBelow (w : World) (e : Ending) (w' : World) : Prop := ∃ r : Bool, e = .returned (.bool r) ∧ Below w.heap.size w w'
def FitsPost (n : Nat) (w : World) (e : Ending) (w' : World) : Prop := ∃ r : Bool, e = .returned (.bool r) ∧ (r = true → n ≤ 2147483647) ∧ Below w.heap.size w w'
def HeavyPost (n : Nat) (w : World) (e : Ending) (w' : World) : Prop := ∃ r : Bool, e = .returned (.bool r) ∧ (r = false → n ≤ 512) ∧ w = w'
set_option maxHeartbeats 1000000 in
theorem fits2_any (a n : Int) (p : Option Addr) (sn sc : Nat) (w : World) : Calls Tryz.prog 27 #[.agg #[.int .i64 a, .int .i64 n, .slice p sn sc]] w (BoolBelow w) := by
  have hb : Below w.heap.size w (w.alloc (.cells #[.int .i64 a, .int .i64 n, .slice p sn sc] 27)) := (Below.refl _ _).alloc (Nat.le_refl _) _
  have HB := Lib.hid hb
  clear hb
  by_cases h : 2147483647 < sn
  · have h1 : (2147483647 : Int) < sn := by omega
    go_enter Tryz.func27, Tryz.ntmps27
    go_wp2
    exact bodyPost_ret (results_tmp rfl _ _ _) rfl ⟨_, rfl, HB.out⟩
  · have h1 : ¬ (2147483647 : Int) < sn := by omega
    go_enter Tryz.func27, Tryz.ntmps27
    go_wp2
    exact bodyPost_ret (results_tmp rfl _ _ _) rfl ⟨_, rfl, HB.out⟩
set_option maxHeartbeats 4000000 in
set_option maxRecDepth 100000 in
theorem fits1_any {w : World} {pv : Option Addr} {cs : List Cl} (cc : Nat) (h : CallsArg w pv cs) : Calls Tryz.prog 15 #[.slice pv cs.length cc] w (FitsPost cs.length w) := by
  have HC := Lib.hid h
  clear h
  by_cases hbig : 2147483647 < cs.length
  · have h1 : (2147483647 : Int) < cs.length := by omega
    go_enter Tryz.func15, Tryz.ntmps15
    go_wp2
    exact bodyPost_ret (results_tmp rfl _ _ _) rfl ⟨false, rfl, fun h => (by cases h), Below.refl _ _⟩
  have h1 : ¬ (2147483647 : Int) < cs.length := by omega
  go_enter Tryz.func15, Tryz.ntmps15
  go_wp2
  go_loopw [10] (fun i wr => ∃ k : Nat, i = .int .i64 k ∧ k ≤ cs.length ∧ Below w.heap.size w wr) (fun i _ => cs.length - (intOf i).toNat)
  case atStart => exact ⟨0, rfl, Nat.zero_le _, Below.refl _ _⟩
  case round =>
    obtain ⟨k, rfl, hk, hb⟩ := hrel
    have HB := Lib.hid hb
    clear hb
    by_cases hlt : k < cs.length
    case neg =>
      obtain rfl : k = cs.length := by omega
      go_wp2
      exact bodyPost_ret (results_tmp rfl _ _ _) rfl ⟨true, rfl, fun _ => by omega, HB.out⟩
    case pos =>
      obtain ⟨cb, co, rfl, hcb, hci⟩ := HC.out (by omega)
      obtain ⟨p3, s3, c3, -, q0, q1, q2⟩ := (hci.below HB.out hcb) k hlt
      clear hci
      generalize (cs.getD k (0, 0, .nilIface)).1 = a at q0
      generalize (cs.getD k (0, 0, .nilIface)).2.1 = n at q1
      go_wp2_with (go_at_call 27; refine (fits2_any _ _ _ _ _ _).mono ?_; rintro e w2 ⟨r, rfl, hb2⟩; have HB2 := Lib.hid hb2; clear hb2; cases r)
      · have hb := (HB.out.alloc HB.out.size _).trans (HB2.out.mono (by have := HB.out.size; simp; omega))
        have HBF := Lib.hid hb
        clear hb
        exact bodyPost_ret (results_tmp rfl _ _ _) rfl ⟨false, rfl, fun h => (by cases h), HBF.out⟩
      · refine ⟨⟨k + 1, by go_num, by omega, (HB.out.alloc HB.out.size _).trans (HB2.out.mono (by have := HB.out.size; simp; omega))⟩, by simp [intOf]; omega⟩
set_option maxHeartbeats 4000000 in
set_option maxRecDepth 100000 in
theorem heavy_any {w : World} {pv : Option Addr} {cs : List Cl} (cc : Nat) (h : CallsArg w pv cs) (hlen : cs.length ≤ 2147483647) : Calls Tryz.prog 16 #[.slice pv cs.length cc] w (HeavyPost cs.length w) := by
  have HC := Lib.hid h
  clear h
  go_enter Tryz.func16, Tryz.ntmps16
  go_upto_block 0 with fail
  go_cut [3, 4] from 5 to 23 (fun a3 a4 wx => (∃ N k : Nat, a3 = .int .i64 N ∧ a4 = .int .i64 k ∧ N ≤ 20000) ∧ w = wx)
  case first =>
    go_wp2_with fail
    go_loop [3, 4] (fun a3 a4 => ∃ N k : Nat, a3 = .int .i64 N ∧ a4 = .int .i64 k ∧ k ≤ cs.length ∧ N ≤ 16400) (fun _ a4 => cs.length - (intOf a4).toNat)
    case atStart => exact ⟨0, 0, rfl, rfl, Nat.zero_le _, by decide⟩
    case round =>
      obtain ⟨N, k, rfl, rfl, hk, hN⟩ := hrel
      by_cases hlt : k < cs.length
      case neg =>
        obtain rfl : k = cs.length := by omega
        go_wp2_with fail
        go_meet
        exact ⟨⟨N, cs.length, rfl, rfl, by omega⟩, rfl⟩
      case pos =>
        by_cases hN2 : N ≤ 8192
        case neg =>
          have h3 : ¬ (N : Int) ≤ 8192 := by omega
          go_wp2_with fail
          go_meet
          exact ⟨⟨N, k, rfl, rfl, by omega⟩, rfl⟩
        case pos =>
          have h3 : (N : Int) ≤ 8192 := by omega
          obtain ⟨cb, co, rfl, hcb, hci⟩ := HC.out (by omega)
          obtain ⟨p3, s3, c3, -, q0, q1, q2⟩ := hci k hlt
          clear hci
          go_wp2_with fail
          exact ⟨⟨N + min s3 8193, k + 1, congrArg _ (by omega), by go_num, by omega, by omega⟩, by simp [intOf]; omega⟩
  case rest =>
    obtain ⟨⟨N, k, rfl, rfl, hN⟩, rfl⟩ := hcut
    by_cases h8 : 8192 < N
    · have g8 : (8192 : Int) < N := by omega
      go_wp2_with fail
      exact bodyPost_ret (results_tmp rfl _ _ _) rfl ⟨true, rfl, fun h => (by cases h), rfl⟩
    · have g8 : ¬ (8192 : Int) < N := by omega
      by_cases h5 : 512 < cs.length
      · have g5 : (512 : Int) < cs.length := by omega
        go_wp2_with fail
        exact bodyPost_ret (results_tmp rfl _ _ _) rfl ⟨true, rfl, fun h => (by cases h), rfl⟩
      · have g5 : ¬ (512 : Int) < cs.length := by omega
        go_wp2_with fail
        exact bodyPost_ret (results_tmp rfl _ _ _) rfl ⟨false, rfl, fun _ => (by omega), rfl⟩
end Go.Proofs.YtaecbclonmhbcaaGreatDoor

namespace Go.Proofs.YtaecbclonmhbcaaGreatDoor
open Go.RowKit
theorem own_shape {w : World} {B e s n : Nat} {v : Value} {xs : List Value} (h : w.ownsRow B e s v n xs) : ∃ pd cap, v = .slice pd n cap ∧ (0 < n → ∃ g, pd = some ⟨g, 0, none⟩ ∧ g < w.heap.size ∧ v = .slice (some ⟨g, 0, none⟩) n cap) := by
  rcases h.2 with ⟨rfl, rfl⟩ | ⟨g, cap, cur, rfl, hg1, hg2, _⟩
  · exact ⟨none, 0, rfl, fun h => absurd h (Nat.lt_irrefl 0)⟩
  · exact ⟨_, cap, rfl, fun _ => ⟨g, rfl, lt_heap hg2, rfl⟩⟩
theorem arg_below {w w' : World} {v : Value} {l : List Int} (h : BytesArg w v l) (hb : Below w.heap.size w w') : BytesArg w' v l := by
  rcases h with h | h
  · exact .inl h
  · rcases h with h | ⟨b, o, cap, hv, hc, hn, hx⟩
    · exact .inr (.inl h)
    · exact .inr (.inr ⟨b, o, cap, hv, hc, ⟨hn.1, Nat.lt_of_lt_of_le hn.2 hb.size⟩, fun i hi => (hb.cell (p := ⟨b, o + i, none⟩) hn.2).trans (hx i hi)⟩)
theorem CallsArg.below {w w' : World} {pv : Option Addr} {cs : List Cl} (h : CallsArg w pv cs) (hb : Below w.heap.size w w') : CallsArg w' pv cs := fun h0 => by
  obtain ⟨cb, co, h1, h2, h3⟩ := h h0
  exact ⟨cb, co, h1, Nat.lt_of_lt_of_le h2 hb.size, h3.below hb h2⟩
structure DoRow (w wx : World) (v : Value) (ds : List Cl) : Prop where
  own : wx.ownsRow w.heap.size 27 3 v ds.length (clVs ds)
  sl : ClS ds
  ok : ∀ c ∈ ds, OkOp c.1
  below : Below w.heap.size w wx
theorem DoRow.step {w wr w' : World} {v v' : Value} {ds : List Cl} (h : DoRow w wr v ds) {a n : Int} {p : Option Addr} {sn sc : Nat} (ho : w'.ownsRow w.heap.size 27 3 v' (ds ++ [(a, n, Value.slice p sn sc)]).length (clVs (ds ++ [(a, n, Value.slice p sn sc)]))) (hg : wr.grownBy w' v.ownBlock) (hok : OkOp a) :
    DoRow w w' v' (ds ++ [(a, n, Value.slice p sn sc)]) := by
  refine ⟨ho, fun c hc => ?_, fun c hc => ?_, h.below.grown hg h.below.size (fun j e => (h.own.lt j e).1)⟩
  · rcases List.mem_append.1 hc with hc | hc
    · exact h.sl c hc
    · rw [List.mem_singleton.1 hc]; exact ⟨p, sn, sc, rfl⟩
  · rcases List.mem_append.1 hc with hc | hc
    · exact h.ok c hc
    · rw [List.mem_singleton.1 hc]; exact hok
end Go.Proofs.YtaecbclonmhbcaaGreatDoor

namespace Go.Proofs.YtaecbclonmhbcaaGreatDoor
open Go.RowKit
theorem Ground.below {w w' : World} {ae ao : Addr} (h : Ground w ae ao) (k : Below w.heap.size w w') : Ground w' ae ao := by
  obtain ⟨ca, ta, h1⟩ := h.ho
  obtain ⟨cb, tb, h2⟩ := h.he
  obtain ⟨t, h3, h4⟩ := h.text
  exact ⟨env_below h.env k h.two, Nat.lt_of_lt_of_le h.two k.size, h.tabs.below k, ⟨ca, ta, (k.block _ (lt_heap h1)).trans h1⟩, ⟨cb, tb, (k.block _ (lt_heap h2)).trans h2⟩, ⟨t, h3, (k.cell (lt_heap h1)).trans h4⟩⟩
end Go.Proofs.YtaecbclonmhbcaaGreatDoor

namespace Go.Proofs.YtaecbclonmhbcaaGreatDoor
open Go.RowKit
set_option maxHeartbeats 1000000 in
set_option maxRecDepth 100000 in
theorem ground_of {W : World} (h : laidMetH Tryz.prog laidL W) : ∃ ae ao, Ground W ae ao := by
  obtain ⟨ae, ao, c0, c1, t0, t1, he, h2, hae, hao⟩ := env_of_laid h
  have hL := laid_plain h
  obtain ⟨a, t, hv, hc, ht, _⟩ := laid_sentinel (g := 0) hL.tail.tail.tail.tail.tail.tail.tail.tail.tail.tail.tail.tail.tail (by kernel_rfl) (by kernel_rfl) Tryz.underlying63 row191 Tryz.underlying191 Tryz.underlying193 rfl rfl Tryz.underlying9 (by kernel_rfl) (by kernel_rfl)
  have e0 : W.cell? ⟨0, 0, none⟩ = some (.iface 191 (.pointer (some a))) := by have := World.var?_cell (g := 0) (by kernel_rfl) hv 0; simpa using this
  have ea : a = ao := by
    have := e0.symm.trans he.other
    injection this with this
    injection this with _ this
    injection this with this
    injection this
  subst ea
  exact ⟨ae, a, he, h2, tabs_of h, ⟨_, _, hao⟩, ⟨_, _, hae⟩, ⟨t, by rw [Lib.size_eq, ht]; decide, hc⟩⟩
end Go.Proofs.YtaecbclonmhbcaaGreatDoor

namespace Go.Proofs.YtaecbclonmhbcaaGreatDoor
open Go.RowKit Go.WideShapes Go.ChangeShapes
theorem k2 : Tryz.prog.cellsOf 2 = 1 := by kernel_rfl
theorem k3 : Tryz.prog.cellsOf 3 = 1 := by kernel_rfl
theorem k22 : Tryz.prog.cellsOf 22 = 1 := by kernel_rfl
theorem k27 : Tryz.prog.cellsOf 27 = 3 := by kernel_rfl
theorem one_at {cs : List Value} {o : Nat} {v : Value} (h : (cs.drop o).take 1 = [v]) : cs[o]? = some v := by
  have := congrArg (·[0]?) h
  simpa [List.getElem?_take, List.getElem?_drop] using this
section
variable {H : Type} {enc : TypeId × Value → H}
theorem call_cells {W : World} {base : Nat} {sp : Nat → Bool} {held : Bool} {fuel : Nat} {ce : List Value} {y : DataW H × List MemPlace} (h : DataW.trod enc Tryz.prog W base sp held fuel 27 ce = some y) :
    ∃ (a n : Int) (p : Option Addr) (sn sc : Nat), ce[0]? = some (.int .i64 a) ∧ ce[1]? = some (.int .i64 n) ∧ ce[2]? = some (.slice p sn sc) := by
  obtain ⟨xs, m, _, hx, hl, hxl, hall⟩ := DataW.trod_struct Tryz.underlying27 h
  match xs, hxl with
  | [y0, y1, y2], _ =>
    have h0 : DataW.trod enc Tryz.prog W base sp held m 3 ((ce.drop 0).take (Tryz.prog.cellsOf 3)) = some y0 := hall 0 _ rfl
    have h1 : DataW.trod enc Tryz.prog W base sp held m 2 ((ce.drop 1).take (Tryz.prog.cellsOf 2)) = some y1 := hall 1 _ rfl
    have h2 : DataW.trod enc Tryz.prog W base sp held m 22 ((ce.drop 2).take (Tryz.prog.cellsOf 22)) = some y2 := hall 2 _ rfl
    rw [k3] at h0
    rw [k2] at h1
    rw [k22] at h2
    obtain ⟨a, e0, -⟩ := DataW.trod_int Tryz.underlying3 h0
    obtain ⟨n, e1, -⟩ := DataW.trod_int Tryz.underlying2 h1
    rcases DataW.trod_slice Tryz.underlying22 h2 with ⟨e2, _⟩ | ⟨a2, len, cap, _, _, _, _, e2, _⟩
    · exact ⟨a, n, none, 0, 0, one_at e0, one_at e1, one_at e2⟩
    · exact ⟨a, n, some a2, len, cap, one_at e0, one_at e1, one_at e2⟩
set_option maxRecDepth 100000 in
theorem calls_arg {W : World} {base : Nat} {v : Value} {d : DataW H} {p : List MemPlace} (hval : Value.okWide Tryz.prog W .any base 28 v) (h : DataW.Trod enc Tryz.prog W 0 (fun _ => true) true 28 v d p) :
    ∃ (a : Option Addr) (n cap : Nat) (cs : List Cl), v = .slice a n cap ∧ CallsArg W a cs ∧ n = cs.length := by
  obtain ⟨a0, len, cap, rfl⟩ := okWide_slice Tryz.underlying28 hval
  obtain ⟨fuel, hf⟩ := h
  rcases DataW.trod_slice Tryz.underlying28 hf with ⟨hcs, -⟩ | ⟨a, len', cap', elems, rest, m, -, hcs, -, -, hlc, -, hel, helem, -⟩
  · simp [Value.cells] at hcs
    obtain ⟨rfl, rfl, rfl⟩ := hcs
    exact ⟨none, 0, 0, [], rfl, fun h => absurd h (by decide), rfl⟩
  · simp [Value.cells] at hcs
    obtain ⟨rfl, rfl, rfl⟩ := hcs
    have hx : ∀ i : Nat, ∃ c : Cl, i < len → ∃ (p : Option Addr) (sn sc : Nat), c.2.2 = .slice p sn sc ∧ W.cell? ((a.add (i * 3)).add 0) = some (.int .i64 c.1) ∧ W.cell? ((a.add (i * 3)).add 1) = some (.int .i64 c.2.1) ∧ W.cell? ((a.add (i * 3)).add 2) = some (.slice p sn sc) := by
      intro i
      by_cases hi : i < len
      · have h1 := helem i hi
        obtain ⟨b, hb⟩ : ∃ b, elems[i]? = some b := ⟨elems[i]'(by omega), List.getElem?_eq_getElem (by omega)⟩
        rw [hb, k27] at h1
        obtain ⟨ce, hce, hte⟩ := Option.bind_eq_some_iff.1 h1
        obtain ⟨_, hcl, hcc⟩ := World.cells?_some hce
        obtain ⟨x, n, p, sn, sc, e0, e1, e2⟩ := call_cells hte
        exact ⟨(x, n, .slice p sn sc), fun _ => ⟨p, sn, sc, rfl, (hcc 0 (by decide)).trans e0, (hcc 1 (by decide)).trans e1, (hcc 2 (by decide)).trans e2⟩⟩
      · exact ⟨dC, fun h => absurd h hi⟩
    obtain ⟨f, hf'⟩ := Classical.skolem.1 hx
    refine ⟨some a, len, cap, (List.range len).map f, rfl, fun h0 => ?_, by simp⟩
    rw [List.length_map, List.length_range] at h0
    have hsp : a.spot = none := by
      obtain ⟨p, sn, sc, -, e0, -⟩ := hf' 0 h0
      have hx : (Addr.add (Addr.add a (0 * 3)) 0) = a := by simp [Addr.add]
      rw [hx] at e0
      exact World.cell?_spot e0
    obtain ⟨b, o, s⟩ := a
    simp only at hsp
    subst hsp
    have hadd : ∀ i j, (Addr.add (Addr.add ⟨b, o, none⟩ i) j) = ⟨b, o + i + j, none⟩ := fun i j => by rw [Addr.add_lit, Addr.add_lit]
    refine ⟨b, o, rfl, ?_, fun k hk => ?_⟩
    · obtain ⟨p, sn, sc, -, e0, -⟩ := hf' 0 h0
      exact World.block_lt_of_cell? W _ (by rw [hadd] at e0; exact e0)
    · have hk' : k < len := by simpa using hk
      obtain ⟨p, sn, sc, e, e0, e1, e2⟩ := hf' k hk'
      rw [hadd] at e0 e1 e2
      have hget : ((List.range len).map f).getD k (0, 0, .nilIface) = f k := by simp [List.getD, hk']
      rw [hget]
      exact ⟨p, sn, sc, e, e0, e1, e2⟩
end
end Go.Proofs.YtaecbclonmhbcaaGreatDoor
