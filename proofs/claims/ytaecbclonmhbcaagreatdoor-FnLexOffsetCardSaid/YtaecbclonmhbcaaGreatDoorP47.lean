/- impl.mark, of a lexer in whatever mode. Printed by gen_mmk.py. -/
import Derived.Test.YtaecbclonmhbcaaGreatDoorP46
set_option linter.unusedVariables false
set_option linter.unusedSimpArgs false
namespace Go.Proofs.YtaecbclonmhbcaaGreatDoor
open Go.RowKit
def GotQ : Value → Lx → World → Value → Prop := fun r _ _ _ => ∃ (n : Int) (p : Option Addr) (k c : Nat), r = gotV n (.slice p k c) 0 0
theorem got_end4 {F : Fix} {w0 w : World} {vm0 vt ve vm : Value} {p m n k : Nat} {x : Lx} (h : MHeld F w0 vm0 p m [k] w x vt ve vm) (hmn : m ≤ n) (v0 v1 v2 v3 : Value) {N : Int} {P : Option Addr} {K C : Nat} :
    MEnd F w0 vm0 p n GotQ (.returned (gotV N (.slice P K C) 0 0)) ((((w.setCell ⟨k, 0, none⟩ v0).setCell ⟨k, 1, none⟩ v1).setCell ⟨k, 2, none⟩ v2).setCell ⟨k, 3, none⟩ v3) :=
  ⟨_, x, vt, ve, vm, rfl, ⟨_, _, _, _, rfl⟩, (((((h.set (List.mem_singleton.2 rfl) 0 v0).set (List.mem_singleton.2 rfl) 1 v1).set (List.mem_singleton.2 rfl) 2 v2).set (List.mem_singleton.2 rfl) 3 v3).drop).le hmn⟩
theorem got_end5 {F : Fix} {w0 w : World} {vm0 vt ve vm : Value} {p m n k : Nat} {x : Lx} (h : MHeld F w0 vm0 p m [k] w x vt ve vm) (hmn : m ≤ n) (i : Nat) (v v0 v1 v2 v3 : Value) {N : Int} {P : Option Addr} {K C : Nat} :
    MEnd F w0 vm0 p n GotQ (.returned (gotV N (.slice P K C) 0 0)) (((((w.setCell ⟨k, i, none⟩ v).setCell ⟨k, 0, none⟩ v0).setCell ⟨k, 1, none⟩ v1).setCell ⟨k, 2, none⟩ v2).setCell ⟨k, 3, none⟩ v3) :=
  got_end4 (h.set (List.mem_singleton.2 rfl) i v) hmn v0 v1 v2 v3
theorem FreshAt.below {w w' : World} {v : Value} {l : List Int} (h : FreshAt w w' v l) : Below w.heap.size w w' := ⟨h.1.os, h.1.tape, h.1.output, h.1.size, fun k hk => h.1.block k hk (by simp)⟩
theorem isStartE {F : Fix} {w0 w : World} {vm0 vt ve vm : Value} {p n : Nat} {x : Lx} (h : MSt F w0 vm0 p n w x vt ve vm) : Calls Tryz.prog 91 #[.pointer (some ⟨F.b, 0, none⟩)] w (MEnd F w0 vm0 p n fun r _ _ _ => ∃ t, r = .bool t) := by
  refine (isStartM h).mono ?_
  rintro e w' ⟨⟨t, rfl⟩, rfl⟩
  exact ⟨_, x, vt, ve, vm, rfl, ⟨t, rfl⟩, h⟩
theorem okE {F : Fix} {w0 w : World} {vm0 vt ve vm : Value} {p n : Nat} {x : Lx} (h : MSt F w0 vm0 p n w x vt ve vm) : Calls Tryz.prog 47 #[.pointer (some ⟨F.b, 0, none⟩)] w (MEnd F w0 vm0 p n fun r _ _ _ => ∃ t, r = .bool t) := by
  refine (okM h).mono ?_
  rintro e w' ⟨rfl, rfl⟩
  exact ⟨_, x, vt, ve, vm, rfl, ⟨_, rfl⟩, h⟩
theorem errorsE {F : Fix} {w0 w : World} {vm0 vt ve vm : Value} {p n : Nat} {x : Lx} (h : MSt F w0 vm0 p n w x vt ve vm) : Calls Tryz.prog 29 #[.pointer (some ⟨F.b, 0, none⟩)] w (MEnd F w0 vm0 p n fun r _ _ _ => ∃ (pm : Option Addr) (k cm : Nat), r = .slice pm k cm ∧ k ≤ n) := by
  refine (errorsM h).mono ?_
  rintro e w' ⟨rfl, rfl⟩
  obtain ⟨pm, cm, rfl⟩ := h.mx.form
  exact ⟨_, x, vt, ve, _, rfl, ⟨pm, _, cm, rfl, h.good.cnt⟩, h⟩
theorem BytesQ.bytes {F : Fix} {r : Value} {x : Lx} {w : World} {vm : Value} (h : BytesQ F r x w vm) : ∃ l : List Int, BytesAt w ((F.ae.both vm).off F.b) r l ∧ l.length ≤ 100000 := h
section
variable {F : Fix} {w0 w : World} {vm0 vt ve vm : Value} {p n : Nat} {x : Lx}
set_option maxHeartbeats 4000000 in
set_option maxRecDepth 100000 in
theorem mm_fetch (h : MSt F w0 vm0 p n w x vt ve vm) (hn : n ≤ 999999) (nn : Int) (pp : Option Addr) (sn sc : Nat) :
    Calls Tryz.prog 40 #[.pointer (some ⟨F.b, 0, none⟩), callV 0 nn (.slice pp sn sc)] w (MEnd F w0 vm0 p (n + 2) GotQ) := by
  have H := Lib.hid h
  have hbl := h.lx.lt
  have hb2 := h.lx.b2
  have hs : ∀ o : Obj, (w.alloc o).heap.size = w.heap.size + 1 := fun o => by simp
  have HS := Lib.hid hs
  clear h hs
  unfold callV
  go_enter Tryz.func40, Tryz.ntmps40
  go_wp2_with (first
    | (go_at_call 86; refine (fetchM ((((MHeld.nil H.out).alloc _).hold _).st.start)).mono ?_; rintro e w1 ⟨r1, x1, vt1, ve1, vm1, rfl, ⟨rfl, rfl, rfl⟩, g1⟩; obtain ⟨hm, hb⟩ := MHeld.call ((((MHeld.nil H.out).alloc _).hold _)) g1; have hG := (hb _ (List.mem_singleton.2 rfl)).trans (heap_alloc_new _ _); rw [HS.out] at hm hG; clear hb g1; have y0 := cell_of_heap hG 0 rfl; have y1 := cell_of_heap hG 1 rfl; have y2 := cell_of_heap hG 2 rfl; have y3 := cell_of_heap hG 3 rfl; have z := free_of_heap hG; have z0 := z 0; have z1 := z 1; have z2 := z 2; have z3 := z 3; have HM := Lib.hid hm; have GH := Lib.hid hG; clear hm z hG)
    | (go_at_call 62; refine (one_any _ _).mono ?_; rintro e w2 ⟨rfl, rfl⟩))
  (try simp only [Exit.inBlock, Exit.then])
  refine bodyPost_ret (v := gotV (0) (.slice none 0 0) 0 0) ?_ rfl ?_
  · exact results_cell_row rfl _ _ (w.heap.size + 1) 30 _ (0, 0) _ rfl (heap_setCell (heap_setCell (heap_setCell (heap_setCell GH.out 0 _) 1 _) 2 _) 3 _) Tryz.underlying30 rfl (by kernel_rfl)
  · exact got_end4 HM.out (by omega) _ _ _ _
set_option maxHeartbeats 4000000 in
set_option maxRecDepth 100000 in
theorem mm_delim (h : MSt F w0 vm0 p n w x vt ve vm) (hn : n ≤ 999999) (nn : Int) (pp : Option Addr) (sn sc : Nat) :
    Calls Tryz.prog 40 #[.pointer (some ⟨F.b, 0, none⟩), callV 1 nn (.slice pp sn sc)] w (MEnd F w0 vm0 p (n + 2) GotQ) := by
  have H := Lib.hid h
  have hbl := h.lx.lt
  have hb2 := h.lx.b2
  have hs : ∀ o : Obj, (w.alloc o).heap.size = w.heap.size + 1 := fun o => by simp
  have HS := Lib.hid hs
  obtain ⟨c, hc⟩ : ∃ c, nn % 256 = c := ⟨_, rfl⟩
  clear h hs
  unfold callV
  go_enter Tryz.func40, Tryz.ntmps40
  go_wp2_with (first
    | (go_at_call 87; refine (delimM ((((MHeld.nil H.out).alloc _).hold _).st.start) (by omega) c).mono ?_; rintro e w1 ⟨r1, x1, vt1, ve1, vm1, rfl, rfl, g1⟩; obtain ⟨hm, hb⟩ := MHeld.call ((((MHeld.nil H.out).alloc _).hold _)) g1; have hG := (hb _ (List.mem_singleton.2 rfl)).trans (heap_alloc_new _ _); rw [HS.out] at hm hG; clear hb g1; have y0 := cell_of_heap hG 0 rfl; have y1 := cell_of_heap hG 1 rfl; have y2 := cell_of_heap hG 2 rfl; have y3 := cell_of_heap hG 3 rfl; have z := free_of_heap hG; have z0 := z 0; have z1 := z 1; have z2 := z 2; have z3 := z 3; have HM := Lib.hid hm; have GH := Lib.hid hG; clear hm z hG)
    | (go_at_call 62; refine (one_any _ _).mono ?_; rintro e w2 ⟨rfl, rfl⟩))
  (try simp only [Exit.inBlock, Exit.then])
  refine bodyPost_ret (v := gotV (0) (.slice none 0 0) 0 0) ?_ rfl ?_
  · exact results_cell_row rfl _ _ (w.heap.size + 1) 30 _ (0, 0) _ rfl (heap_setCell (heap_setCell (heap_setCell (heap_setCell GH.out 0 _) 1 _) 2 _) 3 _) Tryz.underlying30 rfl (by kernel_rfl)
  · exact got_end4 HM.out (by omega) _ _ _ _
set_option maxHeartbeats 4000000 in
set_option maxRecDepth 100000 in
theorem mm_isDelim (h : MSt F w0 vm0 p n w x vt ve vm) (hn : n ≤ 999999) (nn : Int) (pp : Option Addr) (sn sc : Nat) :
    Calls Tryz.prog 40 #[.pointer (some ⟨F.b, 0, none⟩), callV 2 nn (.slice pp sn sc)] w (MEnd F w0 vm0 p (n + 2) GotQ) := by
  have H := Lib.hid h
  have hbl := h.lx.lt
  have hb2 := h.lx.b2
  have hs : ∀ o : Obj, (w.alloc o).heap.size = w.heap.size + 1 := fun o => by simp
  have HS := Lib.hid hs
  obtain ⟨c, hc⟩ : ∃ c, nn % 256 = c := ⟨_, rfl⟩
  clear h hs
  unfold callV
  go_enter Tryz.func40, Tryz.ntmps40
  go_wp2_with (first
    | (go_at_call 54; refine (isDelimM ((((MHeld.nil H.out).alloc _).hold _).st.start) c).mono ?_; rintro e w1 ⟨r1, x1, vt1, ve1, vm1, rfl, ⟨t, rfl⟩, g1⟩; obtain ⟨hm, hb⟩ := MHeld.call ((((MHeld.nil H.out).alloc _).hold _)) g1; have hG := (hb _ (List.mem_singleton.2 rfl)).trans (heap_alloc_new _ _); rw [HS.out] at hm hG; clear hb g1; have y0 := cell_of_heap hG 0 rfl; have y1 := cell_of_heap hG 1 rfl; have y2 := cell_of_heap hG 2 rfl; have y3 := cell_of_heap hG 3 rfl; have z := free_of_heap hG; have z0 := z 0; have z1 := z 1; have z2 := z 2; have z3 := z 3; have HM := Lib.hid hm; have GH := Lib.hid hG; clear hm z hG)
    | (go_at_call 62; refine (one_any _ _).mono ?_; rintro e w2 ⟨rfl, rfl⟩))
  (try simp only [Exit.inBlock, Exit.then])
  refine bodyPost_ret (v := gotV (b01 t) (.slice none 0 0) 0 0) ?_ rfl ?_
  · exact results_cell_row rfl _ _ (w.heap.size + 1) 30 _ (0, 0) _ rfl (heap_setCell (heap_setCell (heap_setCell (heap_setCell (heap_setCell GH.out 0 _) 0 _) 1 _) 2 _) 3 _) Tryz.underlying30 rfl (by kernel_rfl)
  · exact got_end5 HM.out (by omega) _ _ _ _ _ _
set_option maxHeartbeats 4000000 in
set_option maxRecDepth 100000 in
theorem mm_null (h : MSt F w0 vm0 p n w x vt ve vm) (hn : n ≤ 999999) (nn : Int) (pp : Option Addr) (sn sc : Nat) :
    Calls Tryz.prog 40 #[.pointer (some ⟨F.b, 0, none⟩), callV 3 nn (.slice pp sn sc)] w (MEnd F w0 vm0 p (n + 2) GotQ) := by
  have H := Lib.hid h
  have hbl := h.lx.lt
  have hb2 := h.lx.b2
  have hs : ∀ o : Obj, (w.alloc o).heap.size = w.heap.size + 1 := fun o => by simp
  have HS := Lib.hid hs
  clear h hs
  unfold callV
  go_enter Tryz.func40, Tryz.ntmps40
  go_wp2_with (first
    | (go_at_call 49; refine (nullM ((((MHeld.nil H.out).alloc _).hold _).st.start) (by omega)).mono ?_; rintro e w1 ⟨r1, x1, vt1, ve1, vm1, rfl, rfl, g1⟩; obtain ⟨hm, hb⟩ := MHeld.call ((((MHeld.nil H.out).alloc _).hold _)) g1; have hG := (hb _ (List.mem_singleton.2 rfl)).trans (heap_alloc_new _ _); rw [HS.out] at hm hG; clear hb g1; have y0 := cell_of_heap hG 0 rfl; have y1 := cell_of_heap hG 1 rfl; have y2 := cell_of_heap hG 2 rfl; have y3 := cell_of_heap hG 3 rfl; have z := free_of_heap hG; have z0 := z 0; have z1 := z 1; have z2 := z 2; have z3 := z 3; have HM := Lib.hid hm; have GH := Lib.hid hG; clear hm z hG)
    | (go_at_call 62; refine (one_any _ _).mono ?_; rintro e w2 ⟨rfl, rfl⟩))
  (try simp only [Exit.inBlock, Exit.then])
  refine bodyPost_ret (v := gotV (0) (.slice none 0 0) 0 0) ?_ rfl ?_
  · exact results_cell_row rfl _ _ (w.heap.size + 1) 30 _ (0, 0) _ rfl (heap_setCell (heap_setCell (heap_setCell (heap_setCell GH.out 0 _) 1 _) 2 _) 3 _) Tryz.underlying30 rfl (by kernel_rfl)
  · exact got_end4 HM.out (by omega) _ _ _ _
set_option maxHeartbeats 4000000 in
set_option maxRecDepth 100000 in
theorem mm_isNull (h : MSt F w0 vm0 p n w x vt ve vm) (hn : n ≤ 999999) (nn : Int) (pp : Option Addr) (sn sc : Nat) :
    Calls Tryz.prog 40 #[.pointer (some ⟨F.b, 0, none⟩), callV 4 nn (.slice pp sn sc)] w (MEnd F w0 vm0 p (n + 2) GotQ) := by
  have H := Lib.hid h
  have hbl := h.lx.lt
  have hb2 := h.lx.b2
  have hs : ∀ o : Obj, (w.alloc o).heap.size = w.heap.size + 1 := fun o => by simp
  have HS := Lib.hid hs
  clear h hs
  unfold callV
  go_enter Tryz.func40, Tryz.ntmps40
  go_wp2_with (first
    | (go_at_call 88; refine (isNullM ((((MHeld.nil H.out).alloc _).hold _).st.start)).mono ?_; rintro e w1 ⟨r1, x1, vt1, ve1, vm1, rfl, ⟨t, rfl⟩, g1⟩; obtain ⟨hm, hb⟩ := MHeld.call ((((MHeld.nil H.out).alloc _).hold _)) g1; have hG := (hb _ (List.mem_singleton.2 rfl)).trans (heap_alloc_new _ _); rw [HS.out] at hm hG; clear hb g1; have y0 := cell_of_heap hG 0 rfl; have y1 := cell_of_heap hG 1 rfl; have y2 := cell_of_heap hG 2 rfl; have y3 := cell_of_heap hG 3 rfl; have z := free_of_heap hG; have z0 := z 0; have z1 := z 1; have z2 := z 2; have z3 := z 3; have HM := Lib.hid hm; have GH := Lib.hid hG; clear hm z hG)
    | (go_at_call 62; refine (one_any _ _).mono ?_; rintro e w2 ⟨rfl, rfl⟩))
  (try simp only [Exit.inBlock, Exit.then])
  refine bodyPost_ret (v := gotV (b01 t) (.slice none 0 0) 0 0) ?_ rfl ?_
  · exact results_cell_row rfl _ _ (w.heap.size + 1) 30 _ (0, 0) _ rfl (heap_setCell (heap_setCell (heap_setCell (heap_setCell (heap_setCell GH.out 0 _) 0 _) 1 _) 2 _) 3 _) Tryz.underlying30 rfl (by kernel_rfl)
  · exact got_end5 HM.out (by omega) _ _ _ _ _ _
set_option maxHeartbeats 4000000 in
set_option maxRecDepth 100000 in
theorem mm_skip (h : MSt F w0 vm0 p n w x vt ve vm) (hn : n ≤ 999999) (nn : Int) (pp : Option Addr) (sn sc : Nat) :
    Calls Tryz.prog 40 #[.pointer (some ⟨F.b, 0, none⟩), callV 5 nn (.slice pp sn sc)] w (MEnd F w0 vm0 p (n + 2) GotQ) := by
  have H := Lib.hid h
  have hbl := h.lx.lt
  have hb2 := h.lx.b2
  have hs : ∀ o : Obj, (w.alloc o).heap.size = w.heap.size + 1 := fun o => by simp
  have HS := Lib.hid hs
  clear h hs
  unfold callV
  go_enter Tryz.func40, Tryz.ntmps40
  go_wp2_with (first
    | (go_at_call 57; refine (skipM ((((MHeld.nil H.out).alloc _).hold _).st.start)).mono ?_; rintro e w1 ⟨r1, x1, vt1, ve1, vm1, rfl, rfl, g1⟩; obtain ⟨hm, hb⟩ := MHeld.call ((((MHeld.nil H.out).alloc _).hold _)) g1; have hG := (hb _ (List.mem_singleton.2 rfl)).trans (heap_alloc_new _ _); rw [HS.out] at hm hG; clear hb g1; have y0 := cell_of_heap hG 0 rfl; have y1 := cell_of_heap hG 1 rfl; have y2 := cell_of_heap hG 2 rfl; have y3 := cell_of_heap hG 3 rfl; have z := free_of_heap hG; have z0 := z 0; have z1 := z 1; have z2 := z 2; have z3 := z 3; have HM := Lib.hid hm; have GH := Lib.hid hG; clear hm z hG)
    | (go_at_call 62; refine (one_any _ _).mono ?_; rintro e w2 ⟨rfl, rfl⟩))
  (try simp only [Exit.inBlock, Exit.then])
  refine bodyPost_ret (v := gotV (0) (.slice none 0 0) 0 0) ?_ rfl ?_
  · exact results_cell_row rfl _ _ (w.heap.size + 1) 30 _ (0, 0) _ rfl (heap_setCell (heap_setCell (heap_setCell (heap_setCell GH.out 0 _) 1 _) 2 _) 3 _) Tryz.underlying30 rfl (by kernel_rfl)
  · exact got_end4 HM.out (by omega) _ _ _ _
set_option maxHeartbeats 4000000 in
set_option maxRecDepth 100000 in
theorem mm_skipRec (h : MSt F w0 vm0 p n w x vt ve vm) (hn : n ≤ 999999) (nn : Int) (pp : Option Addr) (sn sc : Nat) :
    Calls Tryz.prog 40 #[.pointer (some ⟨F.b, 0, none⟩), callV 6 nn (.slice pp sn sc)] w (MEnd F w0 vm0 p (n + 2) GotQ) := by
  have H := Lib.hid h
  have hbl := h.lx.lt
  have hb2 := h.lx.b2
  have hs : ∀ o : Obj, (w.alloc o).heap.size = w.heap.size + 1 := fun o => by simp
  have HS := Lib.hid hs
  clear h hs
  unfold callV
  go_enter Tryz.func40, Tryz.ntmps40
  go_wp2_with (first
    | (go_at_call 89; refine (skipRecM ((((MHeld.nil H.out).alloc _).hold _).st.start)).mono ?_; rintro e w1 ⟨r1, x1, vt1, ve1, vm1, rfl, rfl, g1⟩; obtain ⟨hm, hb⟩ := MHeld.call ((((MHeld.nil H.out).alloc _).hold _)) g1; have hG := (hb _ (List.mem_singleton.2 rfl)).trans (heap_alloc_new _ _); rw [HS.out] at hm hG; clear hb g1; have y0 := cell_of_heap hG 0 rfl; have y1 := cell_of_heap hG 1 rfl; have y2 := cell_of_heap hG 2 rfl; have y3 := cell_of_heap hG 3 rfl; have z := free_of_heap hG; have z0 := z 0; have z1 := z 1; have z2 := z 2; have z3 := z 3; have HM := Lib.hid hm; have GH := Lib.hid hG; clear hm z hG)
    | (go_at_call 62; refine (one_any _ _).mono ?_; rintro e w2 ⟨rfl, rfl⟩))
  (try simp only [Exit.inBlock, Exit.then])
  refine bodyPost_ret (v := gotV (0) (.slice none 0 0) 0 0) ?_ rfl ?_
  · exact results_cell_row rfl _ _ (w.heap.size + 1) 30 _ (0, 0) _ rfl (heap_setCell (heap_setCell (heap_setCell (heap_setCell GH.out 0 _) 1 _) 2 _) 3 _) Tryz.underlying30 rfl (by kernel_rfl)
  · exact got_end4 HM.out (by omega) _ _ _ _
set_option maxHeartbeats 4000000 in
set_option maxRecDepth 100000 in
theorem mm_raw (h : MSt F w0 vm0 p n w x vt ve vm) (hn : n ≤ 999999) (nn : Int) (pp : Option Addr) (sn sc : Nat) :
    Calls Tryz.prog 40 #[.pointer (some ⟨F.b, 0, none⟩), callV 7 nn (.slice pp sn sc)] w (MEnd F w0 vm0 p (n + 2) GotQ) := by
  have H := Lib.hid h
  have hbl := h.lx.lt
  have hb2 := h.lx.b2
  have hs : ∀ o : Obj, (w.alloc o).heap.size = w.heap.size + 1 := fun o => by simp
  have HS := Lib.hid hs
  clear h hs
  unfold callV
  go_enter Tryz.func40, Tryz.ntmps40
  go_wp2_with (first
    | (go_at_call 90; refine (rawM ((((MHeld.nil H.out).alloc _).hold _).st.start)).mono ?_; rintro e w1 ⟨r1, x1, vt1, ve1, vm1, rfl, hq, g1⟩; obtain ⟨lb, hbt, hbl2⟩ := BytesQ.bytes hq; have HBT := Lib.hid hbt; clear hbt hq; obtain ⟨hm, hb⟩ := MHeld.call ((((MHeld.nil H.out).alloc _).hold _)) g1; have hG := (hb _ (List.mem_singleton.2 rfl)).trans (heap_alloc_new _ _); rw [HS.out] at hm hG; clear hb g1; have y0 := cell_of_heap hG 0 rfl; have y1 := cell_of_heap hG 1 rfl; have y2 := cell_of_heap hG 2 rfl; have y3 := cell_of_heap hG 3 rfl; have z := free_of_heap hG; have z0 := z 0; have z1 := z 1; have z2 := z 2; have z3 := z 3; have HM := Lib.hid hm; have GH := Lib.hid hG; clear hm z hG)
    | (go_at_call 36; refine (owned_any HBT.out (by omega)).mono ?_; rintro e w2 ⟨v', rfl, hfr⟩; obtain ⟨sp2, sc2, hvv⟩ := hfr.isSlice; subst hvv; have hm := HM.out.below hfr.below; have hG := (hfr.below.block _ (lt_heap GH.out)).trans GH.out; clear hfr; clear y0 y1 y2 y3 z0 z1 z2 z3; have y0 := cell_of_heap hG 0 rfl; have y1 := cell_of_heap hG 1 rfl; have y2 := cell_of_heap hG 2 rfl; have y3 := cell_of_heap hG 3 rfl; have z := free_of_heap hG; have z0 := z 0; have z1 := z 1; have z2 := z 2; have z3 := z 3; have HM2 := Lib.hid hm; have GH2 := Lib.hid hG; clear hm z hG)
    | (go_at_call 62; refine (one_any _ _).mono ?_; rintro e w2 ⟨rfl, rfl⟩))
  (try simp only [Exit.inBlock, Exit.then])
  refine bodyPost_ret (v := gotV (0) (.slice sp2 lb.length sc2) 0 0) ?_ rfl ?_
  · exact results_cell_row rfl _ _ (w.heap.size + 1) 30 _ (0, 0) _ rfl (heap_setCell (heap_setCell (heap_setCell (heap_setCell (heap_setCell GH2.out 1 _) 0 _) 1 _) 2 _) 3 _) Tryz.underlying30 rfl (by kernel_rfl)
  · exact got_end5 HM2.out (by omega) _ _ _ _ _ _
set_option maxHeartbeats 4000000 in
set_option maxRecDepth 100000 in
theorem mm_isStart (h : MSt F w0 vm0 p n w x vt ve vm) (hn : n ≤ 999999) (nn : Int) (pp : Option Addr) (sn sc : Nat) :
    Calls Tryz.prog 40 #[.pointer (some ⟨F.b, 0, none⟩), callV 8 nn (.slice pp sn sc)] w (MEnd F w0 vm0 p (n + 2) GotQ) := by
  have H := Lib.hid h
  have hbl := h.lx.lt
  have hb2 := h.lx.b2
  have hs : ∀ o : Obj, (w.alloc o).heap.size = w.heap.size + 1 := fun o => by simp
  have HS := Lib.hid hs
  clear h hs
  unfold callV
  go_enter Tryz.func40, Tryz.ntmps40
  go_wp2_with (first
    | (go_at_call 91; refine (isStartE ((((MHeld.nil H.out).alloc _).hold _).st.start)).mono ?_; rintro e w1 ⟨r1, x1, vt1, ve1, vm1, rfl, ⟨t, rfl⟩, g1⟩; obtain ⟨hm, hb⟩ := MHeld.call ((((MHeld.nil H.out).alloc _).hold _)) g1; have hG := (hb _ (List.mem_singleton.2 rfl)).trans (heap_alloc_new _ _); rw [HS.out] at hm hG; clear hb g1; have y0 := cell_of_heap hG 0 rfl; have y1 := cell_of_heap hG 1 rfl; have y2 := cell_of_heap hG 2 rfl; have y3 := cell_of_heap hG 3 rfl; have z := free_of_heap hG; have z0 := z 0; have z1 := z 1; have z2 := z 2; have z3 := z 3; have HM := Lib.hid hm; have GH := Lib.hid hG; clear hm z hG)
    | (go_at_call 62; refine (one_any _ _).mono ?_; rintro e w2 ⟨rfl, rfl⟩))
  (try simp only [Exit.inBlock, Exit.then])
  refine bodyPost_ret (v := gotV (b01 t) (.slice none 0 0) 0 0) ?_ rfl ?_
  · exact results_cell_row rfl _ _ (w.heap.size + 1) 30 _ (0, 0) _ rfl (heap_setCell (heap_setCell (heap_setCell (heap_setCell (heap_setCell GH.out 0 _) 0 _) 1 _) 2 _) 3 _) Tryz.underlying30 rfl (by kernel_rfl)
  · exact got_end5 HM.out (by omega) _ _ _ _ _ _
set_option maxHeartbeats 4000000 in
set_option maxRecDepth 100000 in
theorem mm_consumed (h : MSt F w0 vm0 p n w x vt ve vm) (hn : n ≤ 999999) (hg : F.g → F.mu = false) (nn : Int) (pp : Option Addr) (sn sc : Nat) :
    Calls Tryz.prog 40 #[.pointer (some ⟨F.b, 0, none⟩), callV 9 nn (.slice pp sn sc)] w (MEnd F w0 vm0 p (n + 2) GotQ) := by
  have H := Lib.hid h
  have hbl := h.lx.lt
  have hb2 := h.lx.b2
  have hs : ∀ o : Obj, (w.alloc o).heap.size = w.heap.size + 1 := fun o => by simp
  have HS := Lib.hid hs
  clear h hs
  unfold callV
  go_enter Tryz.func40, Tryz.ntmps40
  go_wp2_with (first
    | (go_at_call 33; refine (consumedM ((((MHeld.nil H.out).alloc _).hold _).st.start) hg).mono ?_; rintro e w1 ⟨r1, x1, vt1, ve1, vm1, rfl, rfl, g1⟩; obtain ⟨hm, hb⟩ := MHeld.call ((((MHeld.nil H.out).alloc _).hold _)) g1; have hG := (hb _ (List.mem_singleton.2 rfl)).trans (heap_alloc_new _ _); rw [HS.out] at hm hG; clear hb g1; have y0 := cell_of_heap hG 0 rfl; have y1 := cell_of_heap hG 1 rfl; have y2 := cell_of_heap hG 2 rfl; have y3 := cell_of_heap hG 3 rfl; have z := free_of_heap hG; have z0 := z 0; have z1 := z 1; have z2 := z 2; have z3 := z 3; have HM := Lib.hid hm; have GH := Lib.hid hG; clear hm z hG)
    | (go_at_call 62; refine (one_any _ _).mono ?_; rintro e w2 ⟨rfl, rfl⟩))
  (try simp only [Exit.inBlock, Exit.then])
  refine bodyPost_ret (v := gotV (0) (.slice none 0 0) 0 0) ?_ rfl ?_
  · exact results_cell_row rfl _ _ (w.heap.size + 1) 30 _ (0, 0) _ rfl (heap_setCell (heap_setCell (heap_setCell (heap_setCell GH.out 0 _) 1 _) 2 _) 3 _) Tryz.underlying30 rfl (by kernel_rfl)
  · exact got_end4 HM.out (by omega) _ _ _ _
set_option maxHeartbeats 4000000 in
set_option maxRecDepth 100000 in
theorem mm_comma (h : MSt F w0 vm0 p n w x vt ve vm) (hn : n ≤ 999999) (nn : Int) (pp : Option Addr) (sn sc : Nat) :
    Calls Tryz.prog 40 #[.pointer (some ⟨F.b, 0, none⟩), callV 40 nn (.slice pp sn sc)] w (MEnd F w0 vm0 p (n + 2) GotQ) := by
  have H := Lib.hid h
  have hbl := h.lx.lt
  have hb2 := h.lx.b2
  have hs : ∀ o : Obj, (w.alloc o).heap.size = w.heap.size + 1 := fun o => by simp
  have HS := Lib.hid hs
  clear h hs
  unfold callV
  go_enter Tryz.func40, Tryz.ntmps40
  go_wp2_with (first
    | (go_at_call 92; refine (wantCommaM ((((MHeld.nil H.out).alloc _).hold _).st.start)).mono ?_; rintro e w1 ⟨r1, x1, vt1, ve1, vm1, rfl, rfl, g1⟩; obtain ⟨hm, hb⟩ := MHeld.call ((((MHeld.nil H.out).alloc _).hold _)) g1; have hG := (hb _ (List.mem_singleton.2 rfl)).trans (heap_alloc_new _ _); rw [HS.out] at hm hG; clear hb g1; have y0 := cell_of_heap hG 0 rfl; have y1 := cell_of_heap hG 1 rfl; have y2 := cell_of_heap hG 2 rfl; have y3 := cell_of_heap hG 3 rfl; have z := free_of_heap hG; have z0 := z 0; have z1 := z 1; have z2 := z 2; have z3 := z 3; have HM := Lib.hid hm; have GH := Lib.hid hG; clear hm z hG)
    | (go_at_call 62; refine (one_any _ _).mono ?_; rintro e w2 ⟨rfl, rfl⟩))
  (try simp only [Exit.inBlock, Exit.then])
  refine bodyPost_ret (v := gotV (0) (.slice none 0 0) 0 0) ?_ rfl ?_
  · exact results_cell_row rfl _ _ (w.heap.size + 1) 30 _ (0, 0) _ rfl (heap_setCell (heap_setCell (heap_setCell (heap_setCell GH.out 0 _) 1 _) 2 _) 3 _) Tryz.underlying30 rfl (by kernel_rfl)
  · exact got_end4 HM.out (by omega) _ _ _ _
set_option maxHeartbeats 4000000 in
set_option maxRecDepth 100000 in
theorem mm_colon (h : MSt F w0 vm0 p n w x vt ve vm) (hn : n ≤ 999999) (nn : Int) (pp : Option Addr) (sn sc : Nat) :
    Calls Tryz.prog 40 #[.pointer (some ⟨F.b, 0, none⟩), callV 41 nn (.slice pp sn sc)] w (MEnd F w0 vm0 p (n + 2) GotQ) := by
  have H := Lib.hid h
  have hbl := h.lx.lt
  have hb2 := h.lx.b2
  have hs : ∀ o : Obj, (w.alloc o).heap.size = w.heap.size + 1 := fun o => by simp
  have HS := Lib.hid hs
  clear h hs
  unfold callV
  go_enter Tryz.func40, Tryz.ntmps40
  go_wp2_with (first
    | (go_at_call 93; refine (wantColonM ((((MHeld.nil H.out).alloc _).hold _).st.start)).mono ?_; rintro e w1 ⟨r1, x1, vt1, ve1, vm1, rfl, rfl, g1⟩; obtain ⟨hm, hb⟩ := MHeld.call ((((MHeld.nil H.out).alloc _).hold _)) g1; have hG := (hb _ (List.mem_singleton.2 rfl)).trans (heap_alloc_new _ _); rw [HS.out] at hm hG; clear hb g1; have y0 := cell_of_heap hG 0 rfl; have y1 := cell_of_heap hG 1 rfl; have y2 := cell_of_heap hG 2 rfl; have y3 := cell_of_heap hG 3 rfl; have z := free_of_heap hG; have z0 := z 0; have z1 := z 1; have z2 := z 2; have z3 := z 3; have HM := Lib.hid hm; have GH := Lib.hid hG; clear hm z hG)
    | (go_at_call 62; refine (one_any _ _).mono ?_; rintro e w2 ⟨rfl, rfl⟩))
  (try simp only [Exit.inBlock, Exit.then])
  refine bodyPost_ret (v := gotV (0) (.slice none 0 0) 0 0) ?_ rfl ?_
  · exact results_cell_row rfl _ _ (w.heap.size + 1) 30 _ (0, 0) _ rfl (heap_setCell (heap_setCell (heap_setCell (heap_setCell GH.out 0 _) 1 _) 2 _) 3 _) Tryz.underlying30 rfl (by kernel_rfl)
  · exact got_end4 HM.out (by omega) _ _ _ _
set_option maxHeartbeats 4000000 in
set_option maxRecDepth 100000 in
theorem mm_current (h : MSt F w0 vm0 p n w x vt ve vm) (hn : n ≤ 999999) (nn : Int) (pp : Option Addr) (sn sc : Nat) :
    Calls Tryz.prog 40 #[.pointer (some ⟨F.b, 0, none⟩), callV 42 nn (.slice pp sn sc)] w (MEnd F w0 vm0 p (n + 2) GotQ) := by
  have H := Lib.hid h
  have hbl := h.lx.lt
  have hb2 := h.lx.b2
  have hs : ∀ o : Obj, (w.alloc o).heap.size = w.heap.size + 1 := fun o => by simp
  have HS := Lib.hid hs
  clear h hs
  unfold callV
  go_enter Tryz.func40, Tryz.ntmps40
  go_wp2_with (first
    | (go_at_call 46; refine (currentM ((((MHeld.nil H.out).alloc _).hold _).st.start)).mono ?_; rintro e w1 ⟨r1, x1, vt1, ve1, vm1, rfl, ⟨k, rfl, hk⟩, g1⟩; obtain ⟨hm, hb⟩ := MHeld.call ((((MHeld.nil H.out).alloc _).hold _)) g1; have hG := (hb _ (List.mem_singleton.2 rfl)).trans (heap_alloc_new _ _); rw [HS.out] at hm hG; clear hb g1; have y0 := cell_of_heap hG 0 rfl; have y1 := cell_of_heap hG 1 rfl; have y2 := cell_of_heap hG 2 rfl; have y3 := cell_of_heap hG 3 rfl; have z := free_of_heap hG; have z0 := z 0; have z1 := z 1; have z2 := z 2; have z3 := z 3; have HM := Lib.hid hm; have GH := Lib.hid hG; clear hm z hG)
    | (go_at_call 62; refine (one_any _ _).mono ?_; rintro e w2 ⟨rfl, rfl⟩))
  (try simp only [Exit.inBlock, Exit.then])
  refine bodyPost_ret (v := gotV ((k : Nat)) (.slice none 0 0) 0 0) ?_ rfl ?_
  · exact results_cell_row rfl _ _ (w.heap.size + 1) 30 _ (0, 0) _ rfl (heap_setCell (heap_setCell (heap_setCell (heap_setCell (heap_setCell GH.out 0 _) 0 _) 1 _) 2 _) 3 _) Tryz.underlying30 rfl (by kernel_rfl)
  · exact got_end5 HM.out (by omega) _ _ _ _ _ _
set_option maxHeartbeats 4000000 in
set_option maxRecDepth 100000 in
theorem mm_ok (h : MSt F w0 vm0 p n w x vt ve vm) (hn : n ≤ 999999) (nn : Int) (pp : Option Addr) (sn sc : Nat) :
    Calls Tryz.prog 40 #[.pointer (some ⟨F.b, 0, none⟩), callV 43 nn (.slice pp sn sc)] w (MEnd F w0 vm0 p (n + 2) GotQ) := by
  have H := Lib.hid h
  have hbl := h.lx.lt
  have hb2 := h.lx.b2
  have hs : ∀ o : Obj, (w.alloc o).heap.size = w.heap.size + 1 := fun o => by simp
  have HS := Lib.hid hs
  clear h hs
  unfold callV
  go_enter Tryz.func40, Tryz.ntmps40
  go_wp2_with (first
    | (go_at_call 47; refine (okE ((((MHeld.nil H.out).alloc _).hold _).st.start)).mono ?_; rintro e w1 ⟨r1, x1, vt1, ve1, vm1, rfl, ⟨t, rfl⟩, g1⟩; obtain ⟨hm, hb⟩ := MHeld.call ((((MHeld.nil H.out).alloc _).hold _)) g1; have hG := (hb _ (List.mem_singleton.2 rfl)).trans (heap_alloc_new _ _); rw [HS.out] at hm hG; clear hb g1; have y0 := cell_of_heap hG 0 rfl; have y1 := cell_of_heap hG 1 rfl; have y2 := cell_of_heap hG 2 rfl; have y3 := cell_of_heap hG 3 rfl; have z := free_of_heap hG; have z0 := z 0; have z1 := z 1; have z2 := z 2; have z3 := z 3; have HM := Lib.hid hm; have GH := Lib.hid hG; clear hm z hG)
    | (go_at_call 62; refine (one_any _ _).mono ?_; rintro e w2 ⟨rfl, rfl⟩))
  (try simp only [Exit.inBlock, Exit.then])
  refine bodyPost_ret (v := gotV (b01 t) (.slice none 0 0) 0 0) ?_ rfl ?_
  · exact results_cell_row rfl _ _ (w.heap.size + 1) 30 _ (0, 0) _ rfl (heap_setCell (heap_setCell (heap_setCell (heap_setCell (heap_setCell GH.out 0 _) 0 _) 1 _) 2 _) 3 _) Tryz.underlying30 rfl (by kernel_rfl)
  · exact got_end5 HM.out (by omega) _ _ _ _ _ _
set_option maxHeartbeats 4000000 in
set_option maxRecDepth 100000 in
theorem mm_errors (h : MSt F w0 vm0 p n w x vt ve vm) (hn : n ≤ 999999) (nn : Int) (pp : Option Addr) (sn sc : Nat) :
    Calls Tryz.prog 40 #[.pointer (some ⟨F.b, 0, none⟩), callV 44 nn (.slice pp sn sc)] w (MEnd F w0 vm0 p (n + 2) GotQ) := by
  have H := Lib.hid h
  have hbl := h.lx.lt
  have hb2 := h.lx.b2
  have hs : ∀ o : Obj, (w.alloc o).heap.size = w.heap.size + 1 := fun o => by simp
  have HS := Lib.hid hs
  clear h hs
  unfold callV
  go_enter Tryz.func40, Tryz.ntmps40
  go_wp2_with (first
    | (go_at_call 29; refine (errorsE ((((MHeld.nil H.out).alloc _).hold _).st.start)).mono ?_; rintro e w1 ⟨r1, x1, vt1, ve1, vm1, rfl, ⟨pm, k, cm, rfl, hkn⟩, g1⟩; obtain ⟨hm, hb⟩ := MHeld.call ((((MHeld.nil H.out).alloc _).hold _)) g1; have hG := (hb _ (List.mem_singleton.2 rfl)).trans (heap_alloc_new _ _); rw [HS.out] at hm hG; clear hb g1; have y0 := cell_of_heap hG 0 rfl; have y1 := cell_of_heap hG 1 rfl; have y2 := cell_of_heap hG 2 rfl; have y3 := cell_of_heap hG 3 rfl; have z := free_of_heap hG; have z0 := z 0; have z1 := z 1; have z2 := z 2; have z3 := z 3; have HM := Lib.hid hm; have GH := Lib.hid hG; clear hm z hG)
    | (go_at_call 62; refine (one_any _ _).mono ?_; rintro e w2 ⟨rfl, rfl⟩))
  (try simp only [Exit.inBlock, Exit.then])
  refine bodyPost_ret (v := gotV ((k : Nat)) (.slice none 0 0) 0 0) ?_ rfl ?_
  · exact results_cell_row rfl _ _ (w.heap.size + 1) 30 _ (0, 0) _ rfl (heap_setCell (heap_setCell (heap_setCell (heap_setCell (heap_setCell GH.out 0 _) 0 _) 1 _) 2 _) 3 _) Tryz.underlying30 rfl (by kernel_rfl)
  · exact got_end5 HM.out (by omega) _ _ _ _ _ _
set_option maxHeartbeats 4000000 in
set_option maxRecDepth 100000 in
theorem mm_add (h : MSt F w0 vm0 p n w x vt ve vm) (hn : n ≤ 999999) (nn : Int) (pp : Option Addr) (sn sc : Nat) :
    Calls Tryz.prog 40 #[.pointer (some ⟨F.b, 0, none⟩), callV 45 nn (.slice pp sn sc)] w (MEnd F w0 vm0 p (n + 2) GotQ) := by
  have H := Lib.hid h
  have hbl := h.lx.lt
  have hb2 := h.lx.b2
  have hs : ∀ o : Obj, (w.alloc o).heap.size = w.heap.size + 1 := fun o => by simp
  have HS := Lib.hid hs
  have e0 : ∀ o o' : Obj, ((w.alloc o).alloc o').cell? ⟨0, 0, none⟩ = some (.iface 191 (.pointer (some F.ao))) := fun o o' => (((Kept.refl F.b w).alloc o).alloc o').cell h.lx.env.other (by simp; omega)
  clear h hs
  unfold callV
  go_enter Tryz.func40, Tryz.ntmps40
  go_wp2_with (first
    | (go_at_call 48; refine (addErrorM ((((MHeld.nil H.out).alloc _).hold _).st.start)).mono ?_; rintro e w1 ⟨r1, x1, vt1, ve1, vm1, rfl, rfl, g1⟩; obtain ⟨hm, hb⟩ := MHeld.call ((((MHeld.nil H.out).alloc _).hold _)) g1; have hG := (hb _ (List.mem_singleton.2 rfl)).trans (heap_alloc_new _ _); rw [HS.out] at hm hG; clear hb g1; have y0 := cell_of_heap hG 0 rfl; have y1 := cell_of_heap hG 1 rfl; have y2 := cell_of_heap hG 2 rfl; have y3 := cell_of_heap hG 3 rfl; have z := free_of_heap hG; have z0 := z 0; have z1 := z 1; have z2 := z 2; have z3 := z 3; have HM := Lib.hid hm; have GH := Lib.hid hG; clear hm z hG)
    | (go_at_call 62; refine (one_any _ _).mono ?_; rintro e w2 ⟨rfl, rfl⟩))
  (try simp only [Exit.inBlock, Exit.then])
  refine bodyPost_ret (v := gotV (0) (.slice none 0 0) 0 0) ?_ rfl ?_
  · exact results_cell_row rfl _ _ (w.heap.size + 1) 30 _ (0, 0) _ rfl (heap_setCell (heap_setCell (heap_setCell (heap_setCell GH.out 0 _) 1 _) 2 _) 3 _) Tryz.underlying30 rfl (by kernel_rfl)
  · exact got_end4 HM.out (by omega) _ _ _ _
set_option maxHeartbeats 4000000 in
set_option maxRecDepth 100000 in
theorem mm_addNf (h : MSt F w0 vm0 p n w x vt ve vm) (hn : n ≤ 999999) (nn : Int) (pp : Option Addr) (sn sc : Nat) :
    Calls Tryz.prog 40 #[.pointer (some ⟨F.b, 0, none⟩), callV 46 nn (.slice pp sn sc)] w (MEnd F w0 vm0 p (n + 2) GotQ) := by
  have H := Lib.hid h
  have hbl := h.lx.lt
  have hb2 := h.lx.b2
  have hs : ∀ o : Obj, (w.alloc o).heap.size = w.heap.size + 1 := fun o => by simp
  have HS := Lib.hid hs
  have e0 : ∀ o o' : Obj, ((w.alloc o).alloc o').cell? ⟨0, 0, none⟩ = some (.iface 191 (.pointer (some F.ao))) := fun o o' => (((Kept.refl F.b w).alloc o).alloc o').cell h.lx.env.other (by simp; omega)
  clear h hs
  unfold callV
  go_enter Tryz.func40, Tryz.ntmps40
  go_wp2_with (first
    | (go_at_call 94; refine (addNonFatalM ((((MHeld.nil H.out).alloc _).hold _).st.start) (by omega)).mono ?_; rintro e w1 ⟨r1, x1, vt1, ve1, vm1, rfl, rfl, g1⟩; obtain ⟨hm, hb⟩ := MHeld.call ((((MHeld.nil H.out).alloc _).hold _)) g1; have hG := (hb _ (List.mem_singleton.2 rfl)).trans (heap_alloc_new _ _); rw [HS.out] at hm hG; clear hb g1; have y0 := cell_of_heap hG 0 rfl; have y1 := cell_of_heap hG 1 rfl; have y2 := cell_of_heap hG 2 rfl; have y3 := cell_of_heap hG 3 rfl; have z := free_of_heap hG; have z0 := z 0; have z1 := z 1; have z2 := z 2; have z3 := z 3; have HM := Lib.hid hm; have GH := Lib.hid hG; clear hm z hG)
    | (go_at_call 62; refine (one_any _ _).mono ?_; rintro e w2 ⟨rfl, rfl⟩))
  (try simp only [Exit.inBlock, Exit.then])
  refine bodyPost_ret (v := gotV (0) (.slice none 0 0) 0 0) ?_ rfl ?_
  · exact results_cell_row rfl _ _ (w.heap.size + 1) 30 _ (0, 0) _ rfl (heap_setCell (heap_setCell (heap_setCell (heap_setCell GH.out 0 _) 1 _) 2 _) 3 _) Tryz.underlying30 rfl (by kernel_rfl)
  · exact got_end4 HM.out (by omega) _ _ _ _
end
end Go.Proofs.YtaecbclonmhbcaaGreatDoor
