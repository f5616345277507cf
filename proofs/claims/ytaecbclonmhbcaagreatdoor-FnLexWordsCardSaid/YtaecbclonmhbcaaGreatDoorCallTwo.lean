/- impl.call at knownLexer's two calls. Printed by gen_two.py. -/
import Derived.Test.YtaecbclonmhbcaaGreatDoorCall
import Derived.Test.YtaecbclonmhbcaaGreatDoorTwo
namespace Go.Proofs.YtaecbclonmhbcaaGreatDoor
open Go.RowKit

section
variable {w w' : World} {b : Nat} {ae : Sur} {ao : Addr} {x : Lx} {vd vt ve vm : Value}

theorem TextDone.split {x' : Lx} {q p : Int} {e : Ending} (h : TextDone w b ae ao x' vd vm q p e w') :
    ∃ v, e = .returned (gotV 0 v q p) ∧ (∀ A : Nat → Prop, (∀ k, A k → k < w.heap.size) → BytesAt w' A v [97, 10]) ∧ ∃ vt' ve', LexAt w' b ae ao x' vd vt' ve' vm ∧ Kept b w w' := h
theorem got_store1 {w1 w2 : World} {x' : Lx} {vt1 ve1 : Value} {o : Obj} {c : Array Value} {d0 d1 d2 d3 v0 : Value} (g1 : LexAt w1 b ((ae.hold (w.heap.size + 1)).hold (w.heap.size + 1 + 1)) ao x' vd vt1 ve1 vm)
    (g2 : Kept b (((w.alloc o).alloc (.cells c 30)).alloc (.cells #[d0, d1, d2, d3] 30)) w1) (hb : b < w.heap.size)
    (h2 : w1.setCell ⟨w.heap.size + 1 + 1, 0, none⟩ v0 = w2) :
    w2.heap[w.heap.size + 1]? = some (.cells c 30 (0, 0)) ∧ w2.heap[w.heap.size + 1 + 1]? = some (.cells #[v0, d1, d2, d3] 30 (0, 0)) ∧ LexAt w2 b ((ae.hold (w.heap.size + 1)).hold (w.heap.size + 1 + 1)) ao x' vd vt1 ve1 vm ∧ Kept b w w2 := by
  obtain ⟨ha, hc⟩ := got_heap3 g2 hb
  subst h2
  refine ⟨?_, ?_, g1.setHeld (Sur.hold_self _ _) (by omega) _ _, ?_⟩
  · rw [heap_setCell_other _ _ (by omega)]
    exact ha
  · exact heap_setCell hc 0 v0
  · refine Kept.setNew ?_ (by omega) _ _
    exact Kept.of_alloc (Kept.of_alloc (Kept.of_alloc g2))

set_option maxHeartbeats 4000000 in
set_option maxRecDepth 100000 in
theorem call_24 (h : LexAt w b ae ao x vd vt ve vm) (hw : x.Wf) (hm : x.multi = false) (ho : x.num.ok = true) (hv : x.numV = ⟨#[49, 50]⟩) (n : Int) (p : Option Addr) (sn sc : Nat) (hno : x.num.err ≠ .other) :
    Calls Tryz.prog 26 #[.pointer (some ⟨b, 0, none⟩), callV 24 n (.slice p sn sc)] w fun e w' => CallDone w b ae ao x.num vd vm 12 e w' := by
  have H := Lib.hid h
  have hbl := h.lt
  clear h
  unfold callV
  have hs1 : ∀ o : Obj, (w.alloc o).heap.size = w.heap.size + 1 := fun o => by simp
  have hs2 : ∀ o o' : Obj, ((w.alloc o).alloc o').heap.size = w.heap.size + 1 + 1 := fun o o' => by simp
  have HS1 := Lib.hid hs1
  have HS2 := Lib.hid hs2
  clear hs1 hs2
  have ne1 : w.heap.size + 1 ≠ w.heap.size + 1 + 1 := by omega
  have ne2 : w.heap.size + 1 + 1 ≠ w.heap.size + 1 := by omega
  go_enter Tryz.func26, Tryz.ntmps26
  go_wp2_with (first
    | (go_at_call 38; refine (number_24 (((H.out.alloc _).hold _).hold _) hw hm ho hv).mono ?_; rintro e w1 ⟨rfl, vt1, ve1, g1, g2⟩; have hG := got_heap3 g2 hbl; have u0 := cell_of_heap hG.2 0 rfl; have v0 := free_of_heap hG.2 0; have u1 := cell_of_heap hG.2 1 rfl; have v1 := free_of_heap hG.2 1; have u2 := cell_of_heap hG.2 2 rfl; have v2 := free_of_heap hG.2 2; have u3 := cell_of_heap hG.2 3 rfl; have v3 := free_of_heap hG.2 3; rw [HS1.out, HS2.out] at g1; have G1 := Lib.hid g1; have G2 := Lib.hid g2; have GH := Lib.hid hG; clear g1 g2 hG)
    | (go_at_call 28; refine (error_any (got_store1 G1.out G2.out hbl rfl).2.2.1).mono ?_; intro e w2 h28; obtain ⟨he, hw2⟩ := h28; subst he; have hst := got_store1 G1.out G2.out hbl hw2; clear G1 G2 GH; clear u0 v0; clear u1 v1; clear u2 v2; clear u3 v3; obtain ⟨hA, hB, hC, hD⟩ := hst; have y0 := cell_of_heap hA 0 rfl; have z0 := free_of_heap hA 0; have u0 := cell_of_heap hB 0 rfl; have v0 := free_of_heap hB 0; have y1 := cell_of_heap hA 1 rfl; have z1 := free_of_heap hA 1; have u1 := cell_of_heap hB 1 rfl; have v1 := free_of_heap hB 1; have y2 := cell_of_heap hA 2 rfl; have z2 := free_of_heap hA 2; have u2 := cell_of_heap hB 2 rfl; have v2 := free_of_heap hB 2; have y3 := cell_of_heap hA 3 rfl; have z3 := free_of_heap hA 3; have u3 := cell_of_heap hB 3 rfl; have v3 := free_of_heap hB 3; have HA := Lib.hid hA; have HB := Lib.hid hB; have GA := Lib.hid hC; have GK := Lib.hid hD; have HW2 := Lib.hid hw2; clear hA hB hC hD hw2)
    | (go_at_call 35; refine (kind_any GA.out.err GA.out.env hno).mono ?_; rintro e w3 ⟨h3, rfl⟩; obtain ⟨q, hq⟩ : ∃ q : Int, q = (x.num).err.num := ⟨_, rfl⟩; rw [← hq] at h3; subst h3; have HQ := Lib.hid hq; clear hq)
    | (go_at_call 34; refine (getPos_any GA.out).mono ?_; rintro e w4 ⟨h4, rfl⟩; obtain ⟨r, hr⟩ : ∃ r : Int, r = (x.num).pos := ⟨_, rfl⟩; rw [← hr] at h4; subst h4; have HR := Lib.hid hr; clear hr))
  (try simp only [Exit.inBlock, Exit.then])
  refine bodyPost_ret (v := gotV 12 (.slice none 0 0) q r) ?_ rfl ⟨by rw [HQ.out, HR.out], vt1, ve1, ?_, ?_⟩
  · exact results_cell_row rfl _ _ (w.heap.size + 1) 30 _ (0, 0) _ rfl (heap_setCell (heap_setCell (heap_setCell (heap_setCell ((heap_setCell_other 3 _ ne1).trans ((heap_setCell_other 2 _ ne1).trans HA.out)) 0 _) 1 _) 2 _) 3 _) Tryz.underlying30 rfl (by kernel_rfl)
  · refine LexAt.less (j := w.heap.size + 1) (LexAt.less (j := w.heap.size + 1 + 1) ?_)
    iterate 4 refine LexAt.setHeld ?_ (Sur.hold_old (Sur.hold_self _ _)) (by omega) _ _
    iterate 2 refine LexAt.setHeld ?_ (Sur.hold_self _ _) (by omega) _ _
    exact GA.out
  · iterate 6 refine Kept.setNew ?_ (by omega) _ _
    exact GK.out

set_option maxHeartbeats 4000000 in
set_option maxRecDepth 100000 in
theorem call_13 (h : LexAt w b ae ao x vd vt ve vm) (hw : x.Wf) (hk : x.kind = 0) (hok : x.ok = true) (hok2 : x.fetch.ok = true) (hk2 : x.fetch.kind = 2) (ht : x.fetch.tok = [97, 92, 110]) (n : Int) (p : Option Addr) (sn sc : Nat) (hno : ({ x.fetch with tok := [97, 10], cl := true }.consume : Lx).err ≠ .other) :
    Calls Tryz.prog 26 #[.pointer (some ⟨b, 0, none⟩), callV 13 n (.slice p sn sc)] w fun e w' => TextDone w b ae ao { x.fetch with tok := [97, 10], cl := true }.consume vd vm ({ x.fetch with tok := [97, 10], cl := true }.consume : Lx).err.num ({ x.fetch with tok := [97, 10], cl := true }.consume : Lx).pos e w' := by
  have H := Lib.hid h
  have hbl := h.lt
  clear h
  unfold callV
  have hs1 : ∀ o : Obj, (w.alloc o).heap.size = w.heap.size + 1 := fun o => by simp
  have hs2 : ∀ o o' : Obj, ((w.alloc o).alloc o').heap.size = w.heap.size + 1 + 1 := fun o o' => by simp
  have HS1 := Lib.hid hs1
  have HS2 := Lib.hid hs2
  clear hs1 hs2
  have ne1 : w.heap.size + 1 ≠ w.heap.size + 1 + 1 := by omega
  have ne2 : w.heap.size + 1 + 1 ≠ w.heap.size + 1 := by omega
  go_enter Tryz.func26, Tryz.ntmps26
  go_wp2_with (first
    | (go_at_call 37; refine (text_13 (((H.out.alloc _).hold _).hold _) hw hk hok hok2 hk2 ht n p sn sc).mono ?_; intro e w1 h10; obtain ⟨tv, he1, hbt, vt1, ve1, g1, g2⟩ := TextDone.split h10; clear h10; subst he1; unfold gotV; obtain ⟨tp, tc, rfl⟩ := (hbt (fun _ => False) (fun _ a => a.elim)).isSlice; have HBT := Lib.hid hbt; have hG := got_heap3 g2 hbl; have u0 := cell_of_heap hG.2 0 rfl; have v0 := free_of_heap hG.2 0; have u1 := cell_of_heap hG.2 1 rfl; have v1 := free_of_heap hG.2 1; have u2 := cell_of_heap hG.2 2 rfl; have v2 := free_of_heap hG.2 2; have u3 := cell_of_heap hG.2 3 rfl; have v3 := free_of_heap hG.2 3; rw [HS1.out, HS2.out] at g1; have G1 := Lib.hid g1; have G2 := Lib.hid g2; have GH := Lib.hid hG; clear g1 g2 hG hbt)
    | (go_at_call 28; refine (error_any (got_store G1.out G2.out hbl rfl).2.2.1).mono ?_; intro e w2 h28; obtain ⟨he, hw2⟩ := h28; subst he; have hst := got_store G1.out G2.out hbl hw2; clear G1 G2 GH; clear u0 v0; clear u1 v1; clear u2 v2; clear u3 v3; obtain ⟨hA, hB, hC, hD⟩ := hst; have y0 := cell_of_heap hA 0 rfl; have z0 := free_of_heap hA 0; have u0 := cell_of_heap hB 0 rfl; have v0 := free_of_heap hB 0; have y1 := cell_of_heap hA 1 rfl; have z1 := free_of_heap hA 1; have u1 := cell_of_heap hB 1 rfl; have v1 := free_of_heap hB 1; have y2 := cell_of_heap hA 2 rfl; have z2 := free_of_heap hA 2; have u2 := cell_of_heap hB 2 rfl; have v2 := free_of_heap hB 2; have y3 := cell_of_heap hA 3 rfl; have z3 := free_of_heap hA 3; have u3 := cell_of_heap hB 3 rfl; have v3 := free_of_heap hB 3; have HA := Lib.hid hA; have HB := Lib.hid hB; have GA := Lib.hid hC; have GK := Lib.hid hD; have HW2 := Lib.hid hw2; clear hA hB hC hD hw2)
    | (go_at_call 35; refine (kind_any GA.out.err GA.out.env hno).mono ?_; rintro e w3 ⟨h3, rfl⟩; obtain ⟨q, hq⟩ : ∃ q : Int, q = ({ x.fetch with tok := [97, 10], cl := true }.consume : Lx).err.num := ⟨_, rfl⟩; rw [← hq] at h3; subst h3; have HQ := Lib.hid hq; clear hq)
    | (go_at_call 34; refine (getPos_any GA.out).mono ?_; rintro e w4 ⟨h4, rfl⟩; obtain ⟨r, hr⟩ : ∃ r : Int, r = ({ x.fetch with tok := [97, 10], cl := true }.consume : Lx).pos := ⟨_, rfl⟩; rw [← hr] at h4; subst h4; have HR := Lib.hid hr; clear hr))
  (try simp only [Exit.inBlock, Exit.then])
  refine bodyPost_ret (v := gotV 0 (.slice tp 2 tc) q r) ?_ rfl ⟨_, by rw [HQ.out, HR.out], ?_, vt1, ve1, ?_, ?_⟩
  · exact results_cell_row rfl _ _ (w.heap.size + 1) 30 _ (0, 0) _ rfl (heap_setCell (heap_setCell (heap_setCell (heap_setCell ((heap_setCell_other 3 _ ne1).trans ((heap_setCell_other 2 _ ne1).trans HA.out)) 0 _) 1 _) 2 _) 3 _) Tryz.underlying30 rfl (by kernel_rfl)
  · intro A hA
    rw [← HW2.out]
    have h0 := HBT.out (fun k => A k ∨ k = w.heap.size + 1 ∨ k = w.heap.size + 1 + 1) (by
      rintro k (a | rfl | rfl)
      · have := hA k a; simp; omega
      · simp
      · simp)
    refine BytesAt.other (A := fun k => A k ∨ k = w.heap.size + 1 ∨ k = w.heap.size + 1 + 1) ?_ (fun k _ a => .inl a)
    iterate 10 refine BytesAt.grown ?_ (grownBy_setCell _ _ _ _) (fun k e => .inr (by have := Option.some.inj e; omega))
    exact h0
  · refine LexAt.less (j := w.heap.size + 1) (LexAt.less (j := w.heap.size + 1 + 1) ?_)
    iterate 4 refine LexAt.setHeld ?_ (Sur.hold_old (Sur.hold_self _ _)) (by omega) _ _
    iterate 2 refine LexAt.setHeld ?_ (Sur.hold_self _ _) (by omega) _ _
    exact GA.out
  · iterate 6 refine Kept.setNew ?_ (by omega) _ _
    exact GK.out
end
end Go.Proofs.YtaecbclonmhbcaaGreatDoor
