/- What impl.call's contracts share: the named errors' blocks; impl.kind at every error; behind the store of a number. impl.call, by what impl.mark, impl.text, impl.number may do. Printed by gen_callr.py. impl.text at String, by what it may do. -/
import Derived.Test.YtaecbclonmhbcaaGreatDoorG37
import Derived.Test.YtaecbclonmhbcaaGreatDoorG36
set_option linter.unusedVariables false
set_option linter.unusedSimpArgs false
/- What impl.call's contracts share: the named errors' blocks; impl.kind at every error; behind the store of a number. -/
namespace Go.Proofs.YtaecbclonmhbcaaGreatDoor
open Go.RowKit

/-- The two named errors lie below the lexer. -/
def ErrB (b : Nat) (ae ao : Addr) (w : World) : Prop := ∃ (ca cb : Array Value) (ta tb : TypeId), w.heap[ao.block]? = some (.cells ca ta (0, 0)) ∧ w.heap[ae.block]? = some (.cells cb tb (0, 0)) ∧ ao.block ≠ b ∧ ae.block ≠ b
theorem ErrB.kept {b : Nat} {ae ao : Addr} {w w' : World} (h : ErrB b ae ao w) (k : Kept b w w') : ErrB b ae ao w' := by
  obtain ⟨ca, cb, ta, tb, h1, h2, h3, h4⟩ := h
  exact ⟨ca, cb, ta, tb, k.heap h1 h3, k.heap h2 h4, h3, h4⟩
section
variable {w w' : World} {b : Nat} {ae : Sur} {ao : Addr} {x : Lx} {vd vt ve vm : Value}
theorem kind_all {v : Value} {e : Er} (h : ErrAt w b ae ao v e) (he : Env w ae ao) (hB : ErrB b ae.addr ao w) :
    Calls Tryz.prog 35 #[v] w fun e' w' => e' = .returned (.int .i64 e.num) ∧ w = w' := by
  by_cases ho : e = .other
  · subst ho
    simp only [ErrAt] at h
    subst h
    obtain ⟨ca, cb, ta, tb, h1, h2, -, -⟩ := hB
    exact kind_other w he h1 h2
  · exact kind_any h he ho
theorem got_storeN {w1 w2 : World} {x' : Lx} {vt1 ve1 : Value} {o : Obj} {c : Array Value} {d0 d1 d2 d3 v0 : Value} (g1 : LexAt w1 b ((ae.hold (w.heap.size + 1)).hold (w.heap.size + 1 + 1)) ao x' vd vt1 ve1 vm)
    (g2 : Kept b (((w.alloc o).alloc (.cells c 30)).alloc (.cells #[d0, d1, d2, d3] 30)) w1) (hb : b < w.heap.size)
    (h2 : w1.setCell ⟨w.heap.size + 1 + 1, 0, none⟩ v0 = w2) :
    w2.heap[w.heap.size + 1]? = some (.cells c 30 (0, 0)) ∧ w2.heap[w.heap.size + 1 + 1]? = some (.cells #[v0, d1, d2, d3] 30 (0, 0)) ∧ LexAt w2 b ((ae.hold (w.heap.size + 1)).hold (w.heap.size + 1 + 1)) ao x' vd vt1 ve1 vm ∧ Kept b w w2 := by
  obtain ⟨ha, hc⟩ := got_heap3 g2 hb
  subst h2
  refine ⟨?_, ?_, g1.setHeld (Sur.hold_self _ _) (by omega) _ _, ?_⟩
  · rw [heap_setCell_other _ _ (by omega)]
    exact ha
  · exact heap_setCell hc 0 v0
  · refine Kept.setNew ?_ (by omega) _ _
    exact Kept.of_alloc (Kept.of_alloc (Kept.of_alloc g2))
end
end Go.Proofs.YtaecbclonmhbcaaGreatDoor

/- impl.call, by what impl.mark, impl.text, impl.number may do. Printed by gen_callr.py. -/
namespace Go.Proofs.YtaecbclonmhbcaaGreatDoor
open Go.RowKit
section
variable {w w' : World} {b : Nat} {ae : Sur} {ao : Addr} {x : Lx} {vd vt ve vm : Value}

set_option maxHeartbeats 4000000 in
set_option maxRecDepth 100000 in
theorem callR_small (op : Int) (hop : op < 10) (h : LexAt w b ae ao x vd vt ve vm) (hG : Gr b w) (hE : ErrB b ae.addr ao w) (n : Int) (p : Option Addr) (sn sc : Nat)
    (hS : ∀ (W : World) (s : Sur) (vt' ve' : Value), LexAt W b s ao x vd vt' ve' vm → s.addr = ae.addr → Gr b W → Calls Tryz.prog 40 #[.pointer (some ⟨b, 0, none⟩), callV op n (.slice p sn sc)] W (SubR op W b s ao x vd vm)) :
    Calls Tryz.prog 26 #[.pointer (some ⟨b, 0, none⟩), callV op n (.slice p sn sc)] w (CallR op w b ae ao x vd vm) := by
  have H := Lib.hid h
  have HG := Lib.hid hG
  have HS := Lib.hid hS
  have HE := Lib.hid hE
  have hbl := h.lt
  have g10 : ¬ (10 : Int) ≤ op := by omega
  have g16 : ¬ (16 : Int) ≤ op := by omega
  have g28 : ¬ (28 : Int) ≤ op := by omega
  clear h hG hS hE
  unfold callV
  have hs1 : ∀ o : Obj, (w.alloc o).heap.size = w.heap.size + 1 := fun o => by simp
  have hs2 : ∀ o o' : Obj, ((w.alloc o).alloc o').heap.size = w.heap.size + 1 + 1 := fun o o' => by simp
  have HS1 := Lib.hid hs1
  have HS2 := Lib.hid hs2
  clear hs1 hs2
  have ne1 : w.heap.size + 1 ≠ w.heap.size + 1 + 1 := by omega
  have ne2 : w.heap.size + 1 + 1 ≠ w.heap.size + 1 := by omega
  go_enter Tryz.func26, Tryz.ntmps26
  go_wp2_with (first
    | (go_at_call 40; refine (HS.out _ _ _ _ (((H.out.alloc _).hold _).hold _) rfl (HG.out.kept ((((Kept.refl b w).alloc _).alloc _).alloc _))).mono ?_; rintro e w1 ⟨x', n', sv, hst0, rfl, vt1, ve1, g1, g2⟩; obtain ⟨sp, sk, sc', hsv, -⟩ := hst0.sl; subst hsv; have HST := Lib.hid hst0; clear hst0; unfold gotV; have hG := got_heap3 g2 hbl; have u0 := cell_of_heap hG.2 0 rfl; have v0 := free_of_heap hG.2 0; have u1 := cell_of_heap hG.2 1 rfl; have v1 := free_of_heap hG.2 1; have u2 := cell_of_heap hG.2 2 rfl; have v2 := free_of_heap hG.2 2; have u3 := cell_of_heap hG.2 3 rfl; have v3 := free_of_heap hG.2 3; rw [HS1.out, HS2.out] at g1; have G1 := Lib.hid g1; have G2 := Lib.hid g2; have GH := Lib.hid hG; clear g1 g2 hG)
    | (go_at_call 28; refine (error_any (got_store G1.out G2.out hbl rfl).2.2.1).mono ?_; intro e w2 h28; obtain ⟨he, hw2⟩ := h28; subst he; have hst := got_store G1.out G2.out hbl hw2; clear hw2 G1 G2 GH; clear u0 v0; clear u1 v1; clear u2 v2; clear u3 v3; obtain ⟨hA, hB, hC, hD⟩ := hst; have y0 := cell_of_heap hA 0 rfl; have z0 := free_of_heap hA 0; have u0 := cell_of_heap hB 0 rfl; have v0 := free_of_heap hB 0; have y1 := cell_of_heap hA 1 rfl; have z1 := free_of_heap hA 1; have u1 := cell_of_heap hB 1 rfl; have v1 := free_of_heap hB 1; have y2 := cell_of_heap hA 2 rfl; have z2 := free_of_heap hA 2; have u2 := cell_of_heap hB 2 rfl; have v2 := free_of_heap hB 2; have y3 := cell_of_heap hA 3 rfl; have z3 := free_of_heap hA 3; have u3 := cell_of_heap hB 3 rfl; have v3 := free_of_heap hB 3; have HA := Lib.hid hA; have HB := Lib.hid hB; have GA := Lib.hid hC; have GK := Lib.hid hD; clear hA hB hC hD)
    | (go_at_call 35; refine (kind_all GA.out.err GA.out.env (HE.out.kept GK.out)).mono ?_; rintro e w3 ⟨h3, rfl⟩; obtain ⟨q, hq⟩ : ∃ q : Int, q = x'.err.num := ⟨_, rfl⟩; rw [← hq] at h3; subst h3; have HQ := Lib.hid hq; clear hq)
    | (go_at_call 34; refine (getPos_any GA.out).mono ?_; rintro e w4 ⟨h4, rfl⟩; obtain ⟨r, hr⟩ : ∃ r : Int, r = x'.pos := ⟨_, rfl⟩; rw [← hr] at h4; subst h4; have HR := Lib.hid hr; clear hr))
  (try simp only [Exit.inBlock, Exit.then])
  refine bodyPost_ret (v := gotV n' (.slice sp sk sc') q r) ?_ rfl ⟨x', n', .slice sp sk sc', HST.out, by rw [HQ.out, HR.out], vt1, ve1, ?_, ?_⟩
  · exact results_cell_row rfl _ _ (w.heap.size + 1) 30 _ (0, 0) _ rfl (heap_setCell (heap_setCell (heap_setCell (heap_setCell ((heap_setCell_other 3 _ ne1).trans ((heap_setCell_other 2 _ ne1).trans HA.out)) 0 _) 1 _) 2 _) 3 _) Tryz.underlying30 rfl (by kernel_rfl)
  · refine LexAt.less (j := w.heap.size + 1) (LexAt.less (j := w.heap.size + 1 + 1) ?_)
    iterate 4 refine LexAt.setHeld ?_ (Sur.hold_old (Sur.hold_self _ _)) (by omega) _ _
    iterate 2 refine LexAt.setHeld ?_ (Sur.hold_self _ _) (by omega) _ _
    exact GA.out
  · repeat refine Kept.setNew ?_ (by omega) _ _
    exact GK.out

set_option maxHeartbeats 4000000 in
set_option maxRecDepth 100000 in
theorem callR_big (op : Int) (hop : 39 < op) (h : LexAt w b ae ao x vd vt ve vm) (hG : Gr b w) (hE : ErrB b ae.addr ao w) (n : Int) (p : Option Addr) (sn sc : Nat)
    (hS : ∀ (W : World) (s : Sur) (vt' ve' : Value), LexAt W b s ao x vd vt' ve' vm → s.addr = ae.addr → Gr b W → Calls Tryz.prog 40 #[.pointer (some ⟨b, 0, none⟩), callV op n (.slice p sn sc)] W (SubR op W b s ao x vd vm)) :
    Calls Tryz.prog 26 #[.pointer (some ⟨b, 0, none⟩), callV op n (.slice p sn sc)] w (CallR op w b ae ao x vd vm) := by
  have H := Lib.hid h
  have HG := Lib.hid hG
  have HS := Lib.hid hS
  have HE := Lib.hid hE
  have hbl := h.lt
  have g10 : (10 : Int) ≤ op := by omega
  have g15 : ¬ op ≤ 15 := by omega
  have g16 : (16 : Int) ≤ op := by omega
  have g27 : ¬ op ≤ 27 := by omega
  have g28 : (28 : Int) ≤ op := by omega
  have g39 : ¬ op ≤ 39 := by omega
  clear h hG hS hE
  unfold callV
  have hs1 : ∀ o : Obj, (w.alloc o).heap.size = w.heap.size + 1 := fun o => by simp
  have hs2 : ∀ o o' : Obj, ((w.alloc o).alloc o').heap.size = w.heap.size + 1 + 1 := fun o o' => by simp
  have HS1 := Lib.hid hs1
  have HS2 := Lib.hid hs2
  clear hs1 hs2
  have ne1 : w.heap.size + 1 ≠ w.heap.size + 1 + 1 := by omega
  have ne2 : w.heap.size + 1 + 1 ≠ w.heap.size + 1 := by omega
  go_enter Tryz.func26, Tryz.ntmps26
  go_wp2_with (first
    | (go_at_call 40; refine (HS.out _ _ _ _ (((H.out.alloc _).hold _).hold _) rfl (HG.out.kept ((((Kept.refl b w).alloc _).alloc _).alloc _))).mono ?_; rintro e w1 ⟨x', n', sv, hst0, rfl, vt1, ve1, g1, g2⟩; obtain ⟨sp, sk, sc', hsv, -⟩ := hst0.sl; subst hsv; have HST := Lib.hid hst0; clear hst0; unfold gotV; have hG := got_heap3 g2 hbl; have u0 := cell_of_heap hG.2 0 rfl; have v0 := free_of_heap hG.2 0; have u1 := cell_of_heap hG.2 1 rfl; have v1 := free_of_heap hG.2 1; have u2 := cell_of_heap hG.2 2 rfl; have v2 := free_of_heap hG.2 2; have u3 := cell_of_heap hG.2 3 rfl; have v3 := free_of_heap hG.2 3; rw [HS1.out, HS2.out] at g1; have G1 := Lib.hid g1; have G2 := Lib.hid g2; have GH := Lib.hid hG; clear g1 g2 hG)
    | (go_at_call 28; refine (error_any (got_store G1.out G2.out hbl rfl).2.2.1).mono ?_; intro e w2 h28; obtain ⟨he, hw2⟩ := h28; subst he; have hst := got_store G1.out G2.out hbl hw2; clear hw2 G1 G2 GH; clear u0 v0; clear u1 v1; clear u2 v2; clear u3 v3; obtain ⟨hA, hB, hC, hD⟩ := hst; have y0 := cell_of_heap hA 0 rfl; have z0 := free_of_heap hA 0; have u0 := cell_of_heap hB 0 rfl; have v0 := free_of_heap hB 0; have y1 := cell_of_heap hA 1 rfl; have z1 := free_of_heap hA 1; have u1 := cell_of_heap hB 1 rfl; have v1 := free_of_heap hB 1; have y2 := cell_of_heap hA 2 rfl; have z2 := free_of_heap hA 2; have u2 := cell_of_heap hB 2 rfl; have v2 := free_of_heap hB 2; have y3 := cell_of_heap hA 3 rfl; have z3 := free_of_heap hA 3; have u3 := cell_of_heap hB 3 rfl; have v3 := free_of_heap hB 3; have HA := Lib.hid hA; have HB := Lib.hid hB; have GA := Lib.hid hC; have GK := Lib.hid hD; clear hA hB hC hD)
    | (go_at_call 35; refine (kind_all GA.out.err GA.out.env (HE.out.kept GK.out)).mono ?_; rintro e w3 ⟨h3, rfl⟩; obtain ⟨q, hq⟩ : ∃ q : Int, q = x'.err.num := ⟨_, rfl⟩; rw [← hq] at h3; subst h3; have HQ := Lib.hid hq; clear hq)
    | (go_at_call 34; refine (getPos_any GA.out).mono ?_; rintro e w4 ⟨h4, rfl⟩; obtain ⟨r, hr⟩ : ∃ r : Int, r = x'.pos := ⟨_, rfl⟩; rw [← hr] at h4; subst h4; have HR := Lib.hid hr; clear hr))
  (try simp only [Exit.inBlock, Exit.then])
  refine bodyPost_ret (v := gotV n' (.slice sp sk sc') q r) ?_ rfl ⟨x', n', .slice sp sk sc', HST.out, by rw [HQ.out, HR.out], vt1, ve1, ?_, ?_⟩
  · exact results_cell_row rfl _ _ (w.heap.size + 1) 30 _ (0, 0) _ rfl (heap_setCell (heap_setCell (heap_setCell (heap_setCell ((heap_setCell_other 3 _ ne1).trans ((heap_setCell_other 2 _ ne1).trans HA.out)) 0 _) 1 _) 2 _) 3 _) Tryz.underlying30 rfl (by kernel_rfl)
  · refine LexAt.less (j := w.heap.size + 1) (LexAt.less (j := w.heap.size + 1 + 1) ?_)
    iterate 4 refine LexAt.setHeld ?_ (Sur.hold_old (Sur.hold_self _ _)) (by omega) _ _
    iterate 2 refine LexAt.setHeld ?_ (Sur.hold_self _ _) (by omega) _ _
    exact GA.out
  · repeat refine Kept.setNew ?_ (by omega) _ _
    exact GK.out

set_option maxHeartbeats 4000000 in
set_option maxRecDepth 100000 in
theorem callR_text (op : Int) (hop : 10 ≤ op) (hop2 : op ≤ 15) (h : LexAt w b ae ao x vd vt ve vm) (hG : Gr b w) (hE : ErrB b ae.addr ao w) (n : Int) (p : Option Addr) (sn sc : Nat)
    (hS : ∀ (W : World) (s : Sur) (vt' ve' : Value), LexAt W b s ao x vd vt' ve' vm → s.addr = ae.addr → Gr b W → Calls Tryz.prog 37 #[.pointer (some ⟨b, 0, none⟩), callV op n (.slice p sn sc)] W (SubR op W b s ao x vd vm)) :
    Calls Tryz.prog 26 #[.pointer (some ⟨b, 0, none⟩), callV op n (.slice p sn sc)] w (CallR op w b ae ao x vd vm) := by
  have H := Lib.hid h
  have HG := Lib.hid hG
  have HS := Lib.hid hS
  have HE := Lib.hid hE
  have hbl := h.lt
  clear h hG hS hE
  unfold callV
  have hs1 : ∀ o : Obj, (w.alloc o).heap.size = w.heap.size + 1 := fun o => by simp
  have hs2 : ∀ o o' : Obj, ((w.alloc o).alloc o').heap.size = w.heap.size + 1 + 1 := fun o o' => by simp
  have HS1 := Lib.hid hs1
  have HS2 := Lib.hid hs2
  clear hs1 hs2
  have ne1 : w.heap.size + 1 ≠ w.heap.size + 1 + 1 := by omega
  have ne2 : w.heap.size + 1 + 1 ≠ w.heap.size + 1 := by omega
  go_enter Tryz.func26, Tryz.ntmps26
  go_wp2_with (first
    | (go_at_call 37; refine (HS.out _ _ _ _ (((H.out.alloc _).hold _).hold _) rfl (HG.out.kept ((((Kept.refl b w).alloc _).alloc _).alloc _))).mono ?_; rintro e w1 ⟨x', n', sv, hst0, rfl, vt1, ve1, g1, g2⟩; obtain ⟨sp, sk, sc', hsv, -⟩ := hst0.sl; subst hsv; have HST := Lib.hid hst0; clear hst0; unfold gotV; have hG := got_heap3 g2 hbl; have u0 := cell_of_heap hG.2 0 rfl; have v0 := free_of_heap hG.2 0; have u1 := cell_of_heap hG.2 1 rfl; have v1 := free_of_heap hG.2 1; have u2 := cell_of_heap hG.2 2 rfl; have v2 := free_of_heap hG.2 2; have u3 := cell_of_heap hG.2 3 rfl; have v3 := free_of_heap hG.2 3; rw [HS1.out, HS2.out] at g1; have G1 := Lib.hid g1; have G2 := Lib.hid g2; have GH := Lib.hid hG; clear g1 g2 hG)
    | (go_at_call 28; refine (error_any (got_store G1.out G2.out hbl rfl).2.2.1).mono ?_; intro e w2 h28; obtain ⟨he, hw2⟩ := h28; subst he; have hst := got_store G1.out G2.out hbl hw2; clear hw2 G1 G2 GH; clear u0 v0; clear u1 v1; clear u2 v2; clear u3 v3; obtain ⟨hA, hB, hC, hD⟩ := hst; have y0 := cell_of_heap hA 0 rfl; have z0 := free_of_heap hA 0; have u0 := cell_of_heap hB 0 rfl; have v0 := free_of_heap hB 0; have y1 := cell_of_heap hA 1 rfl; have z1 := free_of_heap hA 1; have u1 := cell_of_heap hB 1 rfl; have v1 := free_of_heap hB 1; have y2 := cell_of_heap hA 2 rfl; have z2 := free_of_heap hA 2; have u2 := cell_of_heap hB 2 rfl; have v2 := free_of_heap hB 2; have y3 := cell_of_heap hA 3 rfl; have z3 := free_of_heap hA 3; have u3 := cell_of_heap hB 3 rfl; have v3 := free_of_heap hB 3; have HA := Lib.hid hA; have HB := Lib.hid hB; have GA := Lib.hid hC; have GK := Lib.hid hD; clear hA hB hC hD)
    | (go_at_call 35; refine (kind_all GA.out.err GA.out.env (HE.out.kept GK.out)).mono ?_; rintro e w3 ⟨h3, rfl⟩; obtain ⟨q, hq⟩ : ∃ q : Int, q = x'.err.num := ⟨_, rfl⟩; rw [← hq] at h3; subst h3; have HQ := Lib.hid hq; clear hq)
    | (go_at_call 34; refine (getPos_any GA.out).mono ?_; rintro e w4 ⟨h4, rfl⟩; obtain ⟨r, hr⟩ : ∃ r : Int, r = x'.pos := ⟨_, rfl⟩; rw [← hr] at h4; subst h4; have HR := Lib.hid hr; clear hr))
  (try simp only [Exit.inBlock, Exit.then])
  refine bodyPost_ret (v := gotV n' (.slice sp sk sc') q r) ?_ rfl ⟨x', n', .slice sp sk sc', HST.out, by rw [HQ.out, HR.out], vt1, ve1, ?_, ?_⟩
  · exact results_cell_row rfl _ _ (w.heap.size + 1) 30 _ (0, 0) _ rfl (heap_setCell (heap_setCell (heap_setCell (heap_setCell ((heap_setCell_other 3 _ ne1).trans ((heap_setCell_other 2 _ ne1).trans HA.out)) 0 _) 1 _) 2 _) 3 _) Tryz.underlying30 rfl (by kernel_rfl)
  · refine LexAt.less (j := w.heap.size + 1) (LexAt.less (j := w.heap.size + 1 + 1) ?_)
    iterate 4 refine LexAt.setHeld ?_ (Sur.hold_old (Sur.hold_self _ _)) (by omega) _ _
    iterate 2 refine LexAt.setHeld ?_ (Sur.hold_self _ _) (by omega) _ _
    exact GA.out
  · repeat refine Kept.setNew ?_ (by omega) _ _
    exact GK.out

set_option maxHeartbeats 4000000 in
set_option maxRecDepth 100000 in
theorem callR_number (op : Int) (hop : 16 ≤ op) (hop2 : op ≤ 27) (h : LexAt w b ae ao x vd vt ve vm) (hG : Gr b w) (hE : ErrB b ae.addr ao w) (n : Int) (p : Option Addr) (sn sc : Nat)
    (hS : ∀ (W : World) (s : Sur) (vt' ve' : Value), LexAt W b s ao x vd vt' ve' vm → s.addr = ae.addr → Gr b W → Calls Tryz.prog 38 #[.pointer (some ⟨b, 0, none⟩), .int .i64 op] W (NopPost (fun n => .int .i64 n) W b s ao x vd vm)) :
    Calls Tryz.prog 26 #[.pointer (some ⟨b, 0, none⟩), callV op n (.slice p sn sc)] w (CallR op w b ae ao x vd vm) := by
  have H := Lib.hid h
  have HG := Lib.hid hG
  have HS := Lib.hid hS
  have HE := Lib.hid hE
  have hbl := h.lt
  have g10 : (10 : Int) ≤ op := by omega
  have g15 : ¬ op ≤ 15 := by omega
  clear h hG hS hE
  unfold callV
  have hs1 : ∀ o : Obj, (w.alloc o).heap.size = w.heap.size + 1 := fun o => by simp
  have hs2 : ∀ o o' : Obj, ((w.alloc o).alloc o').heap.size = w.heap.size + 1 + 1 := fun o o' => by simp
  have HS1 := Lib.hid hs1
  have HS2 := Lib.hid hs2
  clear hs1 hs2
  have ne1 : w.heap.size + 1 ≠ w.heap.size + 1 + 1 := by omega
  have ne2 : w.heap.size + 1 + 1 ≠ w.heap.size + 1 := by omega
  go_enter Tryz.func26, Tryz.ntmps26
  go_wp2_with (first
    | (go_at_call 38; refine (HS.out _ _ _ _ (((H.out.alloc _).hold _).hold _) rfl (HG.out.kept ((((Kept.refl b w).alloc _).alloc _).alloc _))).mono ?_; rintro e w1 ⟨x', n', hi', hsh, rfl, vt1, ve1, g1, g2⟩; have HI2 := Lib.hid hi'; have HSH := Lib.hid hsh; clear hi' hsh; have hG := got_heap3 g2 hbl; have u0 := cell_of_heap hG.2 0 rfl; have v0 := free_of_heap hG.2 0; have u1 := cell_of_heap hG.2 1 rfl; have v1 := free_of_heap hG.2 1; have u2 := cell_of_heap hG.2 2 rfl; have v2 := free_of_heap hG.2 2; have u3 := cell_of_heap hG.2 3 rfl; have v3 := free_of_heap hG.2 3; rw [HS1.out, HS2.out] at g1; have G1 := Lib.hid g1; have G2 := Lib.hid g2; have GH := Lib.hid hG; clear g1 g2 hG)
    | (go_at_call 28; refine (error_any (got_storeN G1.out G2.out hbl rfl).2.2.1).mono ?_; intro e w2 h28; obtain ⟨he, hw2⟩ := h28; subst he; have hst := got_storeN G1.out G2.out hbl hw2; clear hw2 G1 G2 GH; clear u0 v0; clear u1 v1; clear u2 v2; clear u3 v3; obtain ⟨hA, hB, hC, hD⟩ := hst; have y0 := cell_of_heap hA 0 rfl; have z0 := free_of_heap hA 0; have u0 := cell_of_heap hB 0 rfl; have v0 := free_of_heap hB 0; have y1 := cell_of_heap hA 1 rfl; have z1 := free_of_heap hA 1; have u1 := cell_of_heap hB 1 rfl; have v1 := free_of_heap hB 1; have y2 := cell_of_heap hA 2 rfl; have z2 := free_of_heap hA 2; have u2 := cell_of_heap hB 2 rfl; have v2 := free_of_heap hB 2; have y3 := cell_of_heap hA 3 rfl; have z3 := free_of_heap hA 3; have u3 := cell_of_heap hB 3 rfl; have v3 := free_of_heap hB 3; have HA := Lib.hid hA; have HB := Lib.hid hB; have GA := Lib.hid hC; have GK := Lib.hid hD; clear hA hB hC hD)
    | (go_at_call 35; refine (kind_all GA.out.err GA.out.env (HE.out.kept GK.out)).mono ?_; rintro e w3 ⟨h3, rfl⟩; obtain ⟨q, hq⟩ : ∃ q : Int, q = x'.err.num := ⟨_, rfl⟩; rw [← hq] at h3; subst h3; have HQ := Lib.hid hq; clear hq)
    | (go_at_call 34; refine (getPos_any GA.out).mono ?_; rintro e w4 ⟨h4, rfl⟩; obtain ⟨r, hr⟩ : ∃ r : Int, r = x'.pos := ⟨_, rfl⟩; rw [← hr] at h4; subst h4; have HR := Lib.hid hr; clear hr))
  (try simp only [Exit.inBlock, Exit.then])
  refine bodyPost_ret (v := gotV n' (.slice none 0 0) q r) ?_ rfl ⟨x', n', .slice none 0 0, ⟨HI2.out, ⟨none, 0, 0, rfl, fun _ => rfl⟩, HSH.out, fun h => absurd h (by omega)⟩, by rw [HQ.out, HR.out], vt1, ve1, ?_, ?_⟩
  · exact results_cell_row rfl _ _ (w.heap.size + 1) 30 _ (0, 0) _ rfl (heap_setCell (heap_setCell (heap_setCell (heap_setCell ((heap_setCell_other 3 _ ne1).trans ((heap_setCell_other 2 _ ne1).trans HA.out)) 0 _) 1 _) 2 _) 3 _) Tryz.underlying30 rfl (by kernel_rfl)
  · refine LexAt.less (j := w.heap.size + 1) (LexAt.less (j := w.heap.size + 1 + 1) ?_)
    iterate 4 refine LexAt.setHeld ?_ (Sur.hold_old (Sur.hold_self _ _)) (by omega) _ _
    iterate 2 refine LexAt.setHeld ?_ (Sur.hold_self _ _) (by omega) _ _
    exact GA.out
  · repeat refine Kept.setNew ?_ (by omega) _ _
    exact GK.out
end
end Go.Proofs.YtaecbclonmhbcaaGreatDoor

/- impl.text at String, by what it may do. -/
namespace Go.Proofs.YtaecbclonmhbcaaGreatDoor
open Go.RowKit

theorem conv_str (s : ByteArray) (W : World) : ∃ cp W', (convert 9 22 (.string s)).run Tryz.prog W = .ok (.slice (some ⟨W.heap.size, 0, none⟩) s.size cp) W' ∧ W.grownBy W' none := by
  have hcv := run_bytes_of_string (P := Tryz.prog) W 9 22 5 s Tryz.underlying9 Tryz.underlying22 Tryz.underlying5
  exact ⟨_, _, hcv, ⟨rfl, rfl, rfl, by simp, fun k hk _ => heap_alloc_lt (w := W.drew) hk⟩⟩

theorem StrDone.split {w w' : World} {b : Nat} {ae : Sur} {ao : Addr} {x' : Lx} {vd vm : Value} {l : List Int} {e : Ending} (h : StrDone w b ae ao x' vd vm l e w') :
    e = .returned (.string (strOfNums l)) ∧ ∃ vt' ve', LexAt w' b ae ao x' vd vt' ve' vm ∧ Kept b w w' := h

section
variable {w w' : World} {b : Nat} {ae : Sur} {ao : Addr} {x : Lx} {vd vt ve vm : Value}
set_option maxHeartbeats 4000000 in
set_option maxRecDepth 100000 in
theorem textR_string (h : LexAt w b ae ao x vd vt ve vm) (hI : x.Inv) (n : Int) (p : Option Addr) (sn sc : Nat) :
    Calls Tryz.prog 37 #[.pointer (some ⟨b, 0, none⟩), callV 13 n (.slice p sn sc)] w (SubR 13 w b ae ao x vd vm) := by
  have H := Lib.hid h
  have HI := Lib.hid hI
  have hbl := h.lt
  clear h hI
  unfold callV
  go_enter Tryz.func37, Tryz.ntmps37
  go_wp2_with (go_at_call 53; refine (string_any ((H.out.alloc _).hold _) HI.out.wf HI.out.multi HI.out.tf HI.out.len).mono ?_; intro e w1 hD; obtain ⟨rfl, vt1, ve1, g1, g2⟩ := StrDone.split hD; clear hD; have hG := got_heap g2 hbl; obtain ⟨s, hs⟩ : ∃ s, s = strOfNums x.strV := ⟨_, rfl⟩; rw [← hs]; have HSV := Lib.hid hs; clear hs; obtain ⟨cp, w2, hcv, hfr⟩ := conv_str s w1; have hG2 := (hfr.block _ (lt_heap hG) (by simp)).trans hG; have y0 := cell_of_heap hG2 0 rfl; have y1 := cell_of_heap hG2 1 rfl; have y2 := cell_of_heap hG2 2 rfl; have y3 := cell_of_heap hG2 3 rfl; have z := free_of_heap hG2; have z0 := z 0; have z1 := z 1; have z2 := z 2; have z3 := z 3; have G1 := Lib.hid g1; have G2 := Lib.hid g2; have GH := Lib.hid hG2; have FR := Lib.hid hfr; have hlt1 := lt_heap hG; clear g1 g2 z hG hG2 hfr)
  (try simp only [Exit.inBlock, Exit.then])
  have hs : ∀ o : Obj, (w.alloc o).heap.size = w.heap.size + 1 := fun o => by simp
  refine bodyPost_ret (v := gotV 0 (.slice (some ⟨w1.heap.size, 0, none⟩) s.size cp) 0 0) ?_ rfl ⟨x.str, 0, _, ⟨str_inv HI.out, ⟨_, _, _, rfl, fun hx => ?_⟩, fun hx => ⟨(str_shut hx).1, rfl⟩, fun h => absurd h (by decide)⟩, rfl, vt1, ve1, ?_, ?_⟩
  · exact results_cell_row rfl _ _ (w.heap.size + 1) 30 _ (0, 0) _ rfl (heap_setCell (heap_setCell (heap_setCell (heap_setCell (heap_setCell GH.out 1 _) 0 _) 1 _) 2 _) 3 _) Tryz.underlying30 rfl (by kernel_rfl)
  · rw [HSV.out, (str_shut hx).2]; rfl
  · refine LexAt.less (j := w.heap.size + 1) ?_
    have G := G1.out
    rw [hs] at G
    have G' := G.grown FR.out (by simp)
    iterate 5 refine LexAt.setHeld ?_ (Sur.hold_self _ _) (by omega) _ _
    exact G'
  · iterate 5 refine Kept.setNew ?_ (by have := FR.out.size; omega) _ _
    exact (Kept.of_alloc (Kept.of_alloc G2.out)).trans (Kept.of_grown FR.out (by simp))
end
end Go.Proofs.YtaecbclonmhbcaaGreatDoor
