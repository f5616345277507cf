/- impl.mark, impl.text, of a lexer in whatever mode. Printed by gen_mmk.py. impl.number, impl.quoted at whole numbers, of a lexer in whatever mode. Printed by gen_mnu.py. The lexer's calls that read floats, in whatever mode. Printed by gen_mnop.py. impl.number, impl.quoted at floats, of a lexer in whatever mode. Printed by gen_mnu.py. -/
import Derived.Test.YtaecbclonmhbcaaGreatDoorP47
import Derived.Test.YtaecbclonmhbcaaGreatDoorP34
import Derived.Test.YtaecbclonmhbcaaGreatDoorP45
import Derived.Test.YtaecbclonmhbcaaGreatDoorP29
set_option linter.unusedVariables false
set_option linter.unusedSimpArgs false
namespace Go.Proofs.YtaecbclonmhbcaaGreatDoor
open Go.RowKit
section
variable {F : Fix} {w0 w : World} {vm0 vt ve vm : Value} {p n : Nat} {x : Lx}
set_option maxHeartbeats 4000000 in
set_option maxRecDepth 100000 in
theorem mm_other (h : MSt F w0 vm0 p n w x vt ve vm) (op : Int) (hop : op ∉ [(0 : Int), (1 : Int), (2 : Int), (3 : Int), (4 : Int), (5 : Int), (6 : Int), (7 : Int), (8 : Int), (9 : Int), (40 : Int), (41 : Int), (42 : Int), (43 : Int), (44 : Int), (45 : Int), (46 : Int)]) (nn : Int) (pp : Option Addr) (sn sc : Nat) :
    Calls Tryz.prog 40 #[.pointer (some ⟨F.b, 0, none⟩), callV op nn (.slice pp sn sc)] w (MEnd F w0 vm0 p (n + 2) GotQ) := by
  have hs : ∀ o : Obj, (w.alloc o).heap.size = w.heap.size + 1 := fun o => by simp
  have hm := ((MHeld.nil h).alloc (.cells #[.int .i64 op, .int .i64 nn, .slice pp sn sc] 27)).hold #[.int .i64 0, .slice none 0 0, .int .i64 0, .int .i64 0]
  have hG := heap_alloc_new (w.alloc (.cells #[.int .i64 op, .int .i64 nn, .slice pp sn sc] 27)) (.cells #[.int .i64 0, .slice none 0 0, .int .i64 0, .int .i64 0] 30)
  rw [hs] at hm hG
  have HM := Lib.hid hm
  have GH := Lib.hid hG
  have n0 : (op == 0) = false := beq_eq_false_iff_ne.2 (fun e => hop (by simp [e]))
  have n1 : (op == 1) = false := beq_eq_false_iff_ne.2 (fun e => hop (by simp [e]))
  have n2 : (op == 2) = false := beq_eq_false_iff_ne.2 (fun e => hop (by simp [e]))
  have n3 : (op == 3) = false := beq_eq_false_iff_ne.2 (fun e => hop (by simp [e]))
  have n4 : (op == 4) = false := beq_eq_false_iff_ne.2 (fun e => hop (by simp [e]))
  have n5 : (op == 5) = false := beq_eq_false_iff_ne.2 (fun e => hop (by simp [e]))
  have n6 : (op == 6) = false := beq_eq_false_iff_ne.2 (fun e => hop (by simp [e]))
  have n7 : (op == 7) = false := beq_eq_false_iff_ne.2 (fun e => hop (by simp [e]))
  have n8 : (op == 8) = false := beq_eq_false_iff_ne.2 (fun e => hop (by simp [e]))
  have n9 : (op == 9) = false := beq_eq_false_iff_ne.2 (fun e => hop (by simp [e]))
  have n40 : (op == 40) = false := beq_eq_false_iff_ne.2 (fun e => hop (by simp [e]))
  have n41 : (op == 41) = false := beq_eq_false_iff_ne.2 (fun e => hop (by simp [e]))
  have n42 : (op == 42) = false := beq_eq_false_iff_ne.2 (fun e => hop (by simp [e]))
  have n43 : (op == 43) = false := beq_eq_false_iff_ne.2 (fun e => hop (by simp [e]))
  have n44 : (op == 44) = false := beq_eq_false_iff_ne.2 (fun e => hop (by simp [e]))
  have n45 : (op == 45) = false := beq_eq_false_iff_ne.2 (fun e => hop (by simp [e]))
  have n46 : (op == 46) = false := beq_eq_false_iff_ne.2 (fun e => hop (by simp [e]))
  clear h hs hop hm hG
  unfold callV
  go_enter Tryz.func40, Tryz.ntmps40
  go_wp2
  (try simp only [Exit.inBlock, Exit.then])
  refine bodyPost_ret (v := gotV (0) (.slice none 0 0) 0 0) ?_ rfl ?_
  · exact results_cell_row rfl _ _ (w.heap.size + 1) 30 _ (0, 0) _ rfl GH.out Tryz.underlying30 rfl (by kernel_rfl)
  · exact ⟨_, x, vt, ve, vm, rfl, ⟨_, _, _, _, rfl⟩, HM.out.drop.le (by omega)⟩
theorem markM (h : MSt F w0 vm0 p n w x vt ve vm) (hn : n ≤ 999999) (op : Int) (h9 : op = 9 → F.g → F.mu = false) (nn : Int) (pp : Option Addr) (sn sc : Nat) :
    Calls Tryz.prog 40 #[.pointer (some ⟨F.b, 0, none⟩), callV op nn (.slice pp sn sc)] w (MEnd F w0 vm0 p (n + 2) GotQ) := by
  by_cases hop : op ∈ [(0 : Int), (1 : Int), (2 : Int), (3 : Int), (4 : Int), (5 : Int), (6 : Int), (7 : Int), (8 : Int), (9 : Int), (40 : Int), (41 : Int), (42 : Int), (43 : Int), (44 : Int), (45 : Int), (46 : Int)]
  · simp only [List.mem_cons, List.not_mem_nil, or_false] at hop
    rcases hop with rfl | rfl | rfl | rfl | rfl | rfl | rfl | rfl | rfl | rfl | rfl | rfl | rfl | rfl | rfl | rfl | rfl
    · exact mm_fetch h hn nn pp sn sc
    · exact mm_delim h hn nn pp sn sc
    · exact mm_isDelim h hn nn pp sn sc
    · exact mm_null h hn nn pp sn sc
    · exact mm_isNull h hn nn pp sn sc
    · exact mm_skip h hn nn pp sn sc
    · exact mm_skipRec h hn nn pp sn sc
    · exact mm_raw h hn nn pp sn sc
    · exact mm_isStart h hn nn pp sn sc
    · exact mm_consumed h hn (h9 rfl) nn pp sn sc
    · exact mm_comma h hn nn pp sn sc
    · exact mm_colon h hn nn pp sn sc
    · exact mm_current h hn nn pp sn sc
    · exact mm_ok h hn nn pp sn sc
    · exact mm_errors h hn nn pp sn sc
    · exact mm_add h hn nn pp sn sc
    · exact mm_addNf h hn nn pp sn sc
  · exact mm_other h op hop nn pp sn sc
set_option maxHeartbeats 4000000 in
set_option maxRecDepth 100000 in
theorem mt_unsafe (h : MSt F w0 vm0 p n w x vt ve vm) (hn : n ≤ 999999) (nn : Int) (pp : Option Addr) (sn sc : Nat) :
    Calls Tryz.prog 37 #[.pointer (some ⟨F.b, 0, none⟩), callV 10 nn (.slice pp sn sc)] w (MEnd F w0 vm0 p (n + 2) GotQ) := by
  have H := Lib.hid h
  have hbl := h.lx.lt
  have hb2 := h.lx.b2
  have hs : ∀ o : Obj, (w.alloc o).heap.size = w.heap.size + 1 := fun o => by simp
  have HS := Lib.hid hs
  clear h hs
  unfold callV
  go_enter Tryz.func37, Tryz.ntmps37
  go_wp2_with (first
    | (go_at_call 58; refine (unsafeStringM ((((MHeld.nil H.out).alloc _).hold _).st.start) (by omega)).mono ?_; rintro e w1 ⟨r1, x1, vt1, ve1, vm1, rfl, hq, g1⟩; obtain ⟨s, rfl, hs5⟩ := hq; obtain ⟨hm1, hb⟩ := MHeld.call ((((MHeld.nil H.out).alloc _).hold _)) g1; have hG1 := (hb _ (List.mem_singleton.2 rfl)).trans (heap_alloc_new _ _); rw [HS.out] at hm1 hG1; clear hb g1; obtain ⟨cp, w2, hcv, hfr⟩ := conv_str s w1; have hm := hm1.below ⟨hfr.os, hfr.tape, hfr.output, hfr.size, fun k hk => hfr.block k hk (by simp)⟩; have hG := (hfr.block _ (lt_heap hG1) (by simp)).trans hG1; have hlt1 := lt_heap hG1; clear hm1 hG1 hfr; have y0 := cell_of_heap hG 0 rfl; have y1 := cell_of_heap hG 1 rfl; have y2 := cell_of_heap hG 2 rfl; have y3 := cell_of_heap hG 3 rfl; have z := free_of_heap hG; have z0 := z 0; have z1 := z 1; have z2 := z 2; have z3 := z 3; have HM := Lib.hid hm; have GH := Lib.hid hG; clear hm z hG)
    | (go_at_call 62; refine (one_any _ _).mono ?_; rintro e w2 ⟨rfl, rfl⟩))
  (try simp only [Exit.inBlock, Exit.then])
  refine bodyPost_ret (v := gotV (0) (.slice (some ⟨w1.heap.size, 0, none⟩) s.size cp) 0 0) ?_ rfl ?_
  · exact results_cell_row rfl _ _ (w.heap.size + 1) 30 _ (0, 0) _ rfl (heap_setCell (heap_setCell (heap_setCell (heap_setCell (heap_setCell GH.out 1 _) 0 _) 1 _) 2 _) 3 _) Tryz.underlying30 rfl (by kernel_rfl)
  · exact got_end5 HM.out (by omega) _ _ _ _ _ _
set_option maxHeartbeats 4000000 in
set_option maxRecDepth 100000 in
theorem mt_unsafeBytes (h : MSt F w0 vm0 p n w x vt ve vm) (hn : n ≤ 999999) (nn : Int) (pp : Option Addr) (sn sc : Nat) :
    Calls Tryz.prog 37 #[.pointer (some ⟨F.b, 0, none⟩), callV 11 nn (.slice pp sn sc)] w (MEnd F w0 vm0 p (n + 2) GotQ) := by
  have H := Lib.hid h
  have hbl := h.lx.lt
  have hb2 := h.lx.b2
  have hs : ∀ o : Obj, (w.alloc o).heap.size = w.heap.size + 1 := fun o => by simp
  have HS := Lib.hid hs
  clear h hs
  unfold callV
  go_enter Tryz.func37, Tryz.ntmps37
  go_wp2_with (first
    | (go_at_call 59; refine (unsafeBytesM ((((MHeld.nil H.out).alloc _).hold _).st.start) (by omega)).mono ?_; rintro e w1 ⟨r1, x1, vt1, ve1, vm1, rfl, hq, g1⟩; obtain ⟨lb, hbt, hbl2⟩ := BytesQ.bytes hq; have HBT := Lib.hid hbt; clear hbt hq; obtain ⟨hm, hb⟩ := MHeld.call ((((MHeld.nil H.out).alloc _).hold _)) g1; have hG := (hb _ (List.mem_singleton.2 rfl)).trans (heap_alloc_new _ _); rw [HS.out] at hm hG; clear hb g1; have y0 := cell_of_heap hG 0 rfl; have y1 := cell_of_heap hG 1 rfl; have y2 := cell_of_heap hG 2 rfl; have y3 := cell_of_heap hG 3 rfl; have z := free_of_heap hG; have z0 := z 0; have z1 := z 1; have z2 := z 2; have z3 := z 3; have HM := Lib.hid hm; have GH := Lib.hid hG; clear hm z hG)
    | (go_at_call 36; refine (owned_any HBT.out (by omega)).mono ?_; rintro e w2 ⟨v', rfl, hfr⟩; obtain ⟨sp2, sc2, hvv⟩ := hfr.isSlice; subst hvv; have hm := HM.out.below hfr.below; have hG := (hfr.below.block _ (lt_heap GH.out)).trans GH.out; clear hfr; clear y0 y1 y2 y3 z0 z1 z2 z3; have y0 := cell_of_heap hG 0 rfl; have y1 := cell_of_heap hG 1 rfl; have y2 := cell_of_heap hG 2 rfl; have y3 := cell_of_heap hG 3 rfl; have z := free_of_heap hG; have z0 := z 0; have z1 := z 1; have z2 := z 2; have z3 := z 3; have HM2 := Lib.hid hm; have GH2 := Lib.hid hG; clear hm z hG)
    | (go_at_call 62; refine (one_any _ _).mono ?_; rintro e w2 ⟨rfl, rfl⟩))
  (try simp only [Exit.inBlock, Exit.then])
  refine bodyPost_ret (v := gotV (0) (.slice sp2 lb.length sc2) 0 0) ?_ rfl ?_
  · exact results_cell_row rfl _ _ (w.heap.size + 1) 30 _ (0, 0) _ rfl (heap_setCell (heap_setCell (heap_setCell (heap_setCell (heap_setCell GH2.out 1 _) 0 _) 1 _) 2 _) 3 _) Tryz.underlying30 rfl (by kernel_rfl)
  · exact got_end5 HM2.out (by omega) _ _ _ _ _ _
set_option maxHeartbeats 4000000 in
set_option maxRecDepth 100000 in
theorem mt_name (h : MSt F w0 vm0 p n w x vt ve vm) (hn : n ≤ 999999) (nn : Int) (pp : Option Addr) (sn sc : Nat) :
    Calls Tryz.prog 37 #[.pointer (some ⟨F.b, 0, none⟩), callV 12 nn (.slice pp sn sc)] w (MEnd F w0 vm0 p (n + 2) GotQ) := by
  have H := Lib.hid h
  have hbl := h.lx.lt
  have hb2 := h.lx.b2
  have hs : ∀ o : Obj, (w.alloc o).heap.size = w.heap.size + 1 := fun o => by simp
  have HS := Lib.hid hs
  clear h hs
  unfold callV
  go_enter Tryz.func37, Tryz.ntmps37
  go_wp2_with (first
    | (go_at_call 60; refine (unsafeNameM ((((MHeld.nil H.out).alloc _).hold _).st.start) (by omega) _).mono ?_; rintro e w1 ⟨r1, x1, vt1, ve1, vm1, rfl, hq, g1⟩; obtain ⟨s, rfl, hs5⟩ := hq; obtain ⟨hm1, hb⟩ := MHeld.call ((((MHeld.nil H.out).alloc _).hold _)) g1; have hG1 := (hb _ (List.mem_singleton.2 rfl)).trans (heap_alloc_new _ _); rw [HS.out] at hm1 hG1; clear hb g1; obtain ⟨cp, w2, hcv, hfr⟩ := conv_str s w1; have hm := hm1.below ⟨hfr.os, hfr.tape, hfr.output, hfr.size, fun k hk => hfr.block k hk (by simp)⟩; have hG := (hfr.block _ (lt_heap hG1) (by simp)).trans hG1; have hlt1 := lt_heap hG1; clear hm1 hG1 hfr; have y0 := cell_of_heap hG 0 rfl; have y1 := cell_of_heap hG 1 rfl; have y2 := cell_of_heap hG 2 rfl; have y3 := cell_of_heap hG 3 rfl; have z := free_of_heap hG; have z0 := z 0; have z1 := z 1; have z2 := z 2; have z3 := z 3; have HM := Lib.hid hm; have GH := Lib.hid hG; clear hm z hG)
    | (go_at_call 62; refine (one_any _ _).mono ?_; rintro e w2 ⟨rfl, rfl⟩))
  (try simp only [Exit.inBlock, Exit.then])
  refine bodyPost_ret (v := gotV (0) (.slice (some ⟨w1.heap.size, 0, none⟩) s.size cp) 0 0) ?_ rfl ?_
  · exact results_cell_row rfl _ _ (w.heap.size + 1) 30 _ (0, 0) _ rfl (heap_setCell (heap_setCell (heap_setCell (heap_setCell (heap_setCell GH.out 1 _) 0 _) 1 _) 2 _) 3 _) Tryz.underlying30 rfl (by kernel_rfl)
  · exact got_end5 HM.out (by omega) _ _ _ _ _ _
set_option maxHeartbeats 4000000 in
set_option maxRecDepth 100000 in
theorem mt_string (h : MSt F w0 vm0 p n w x vt ve vm) (hn : n ≤ 999999) (nn : Int) (pp : Option Addr) (sn sc : Nat) :
    Calls Tryz.prog 37 #[.pointer (some ⟨F.b, 0, none⟩), callV 13 nn (.slice pp sn sc)] w (MEnd F w0 vm0 p (n + 2) GotQ) := by
  have H := Lib.hid h
  have hbl := h.lx.lt
  have hb2 := h.lx.b2
  have hs : ∀ o : Obj, (w.alloc o).heap.size = w.heap.size + 1 := fun o => by simp
  have HS := Lib.hid hs
  clear h hs
  unfold callV
  go_enter Tryz.func37, Tryz.ntmps37
  go_wp2_with (first
    | (go_at_call 53; refine (stringM ((((MHeld.nil H.out).alloc _).hold _).st.start) (by omega)).mono ?_; rintro e w1 ⟨r1, x1, vt1, ve1, vm1, rfl, hq, g1⟩; obtain ⟨s, rfl, hs5⟩ := hq; obtain ⟨hm1, hb⟩ := MHeld.call ((((MHeld.nil H.out).alloc _).hold _)) g1; have hG1 := (hb _ (List.mem_singleton.2 rfl)).trans (heap_alloc_new _ _); rw [HS.out] at hm1 hG1; clear hb g1; obtain ⟨cp, w2, hcv, hfr⟩ := conv_str s w1; have hm := hm1.below ⟨hfr.os, hfr.tape, hfr.output, hfr.size, fun k hk => hfr.block k hk (by simp)⟩; have hG := (hfr.block _ (lt_heap hG1) (by simp)).trans hG1; have hlt1 := lt_heap hG1; clear hm1 hG1 hfr; have y0 := cell_of_heap hG 0 rfl; have y1 := cell_of_heap hG 1 rfl; have y2 := cell_of_heap hG 2 rfl; have y3 := cell_of_heap hG 3 rfl; have z := free_of_heap hG; have z0 := z 0; have z1 := z 1; have z2 := z 2; have z3 := z 3; have HM := Lib.hid hm; have GH := Lib.hid hG; clear hm z hG)
    | (go_at_call 62; refine (one_any _ _).mono ?_; rintro e w2 ⟨rfl, rfl⟩))
  (try simp only [Exit.inBlock, Exit.then])
  refine bodyPost_ret (v := gotV (0) (.slice (some ⟨w1.heap.size, 0, none⟩) s.size cp) 0 0) ?_ rfl ?_
  · exact results_cell_row rfl _ _ (w.heap.size + 1) 30 _ (0, 0) _ rfl (heap_setCell (heap_setCell (heap_setCell (heap_setCell (heap_setCell GH.out 1 _) 0 _) 1 _) 2 _) 3 _) Tryz.underlying30 rfl (by kernel_rfl)
  · exact got_end5 HM.out (by omega) _ _ _ _ _ _
set_option maxHeartbeats 4000000 in
set_option maxRecDepth 100000 in
theorem mt_bytes (h : MSt F w0 vm0 p n w x vt ve vm) (hn : n ≤ 999999) (nn : Int) (pp : Option Addr) (sn sc : Nat) :
    Calls Tryz.prog 37 #[.pointer (some ⟨F.b, 0, none⟩), callV 14 nn (.slice pp sn sc)] w (MEnd F w0 vm0 p (n + 2) GotQ) := by
  have H := Lib.hid h
  have hbl := h.lx.lt
  have hb2 := h.lx.b2
  have hs : ∀ o : Obj, (w.alloc o).heap.size = w.heap.size + 1 := fun o => by simp
  have HS := Lib.hid hs
  clear h hs
  unfold callV
  go_enter Tryz.func37, Tryz.ntmps37
  go_wp2_with (first
    | (go_at_call 61; refine (bytesM ((((MHeld.nil H.out).alloc _).hold _).st.start) (by omega)).mono ?_; rintro e w1 ⟨r1, x1, vt1, ve1, vm1, rfl, hq, g1⟩; obtain ⟨lb, hbt, hbl2⟩ := BytesQ.bytes hq; have HBT := Lib.hid hbt; clear hbt hq; obtain ⟨hm, hb⟩ := MHeld.call ((((MHeld.nil H.out).alloc _).hold _)) g1; have hG := (hb _ (List.mem_singleton.2 rfl)).trans (heap_alloc_new _ _); rw [HS.out] at hm hG; clear hb g1; have y0 := cell_of_heap hG 0 rfl; have y1 := cell_of_heap hG 1 rfl; have y2 := cell_of_heap hG 2 rfl; have y3 := cell_of_heap hG 3 rfl; have z := free_of_heap hG; have z0 := z 0; have z1 := z 1; have z2 := z 2; have z3 := z 3; have HM := Lib.hid hm; have GH := Lib.hid hG; clear hm z hG)
    | (go_at_call 36; refine (owned_any HBT.out (by omega)).mono ?_; rintro e w2 ⟨v', rfl, hfr⟩; obtain ⟨sp2, sc2, hvv⟩ := hfr.isSlice; subst hvv; have hm := HM.out.below hfr.below; have hG := (hfr.below.block _ (lt_heap GH.out)).trans GH.out; clear hfr; clear y0 y1 y2 y3 z0 z1 z2 z3; have y0 := cell_of_heap hG 0 rfl; have y1 := cell_of_heap hG 1 rfl; have y2 := cell_of_heap hG 2 rfl; have y3 := cell_of_heap hG 3 rfl; have z := free_of_heap hG; have z0 := z 0; have z1 := z 1; have z2 := z 2; have z3 := z 3; have HM2 := Lib.hid hm; have GH2 := Lib.hid hG; clear hm z hG)
    | (go_at_call 62; refine (one_any _ _).mono ?_; rintro e w2 ⟨rfl, rfl⟩))
  (try simp only [Exit.inBlock, Exit.then])
  refine bodyPost_ret (v := gotV (0) (.slice sp2 lb.length sc2) 0 0) ?_ rfl ?_
  · exact results_cell_row rfl _ _ (w.heap.size + 1) 30 _ (0, 0) _ rfl (heap_setCell (heap_setCell (heap_setCell (heap_setCell (heap_setCell GH2.out 1 _) 0 _) 1 _) 2 _) 3 _) Tryz.underlying30 rfl (by kernel_rfl)
  · exact got_end5 HM2.out (by omega) _ _ _ _ _ _
set_option maxHeartbeats 4000000 in
set_option maxRecDepth 100000 in
theorem mt_bool (h : MSt F w0 vm0 p n w x vt ve vm) (hn : n ≤ 999999) (nn : Int) (pp : Option Addr) (sn sc : Nat) :
    Calls Tryz.prog 37 #[.pointer (some ⟨F.b, 0, none⟩), callV 15 nn (.slice pp sn sc)] w (MEnd F w0 vm0 p (n + 2) GotQ) := by
  have H := Lib.hid h
  have hbl := h.lx.lt
  have hb2 := h.lx.b2
  have hs : ∀ o : Obj, (w.alloc o).heap.size = w.heap.size + 1 := fun o => by simp
  have HS := Lib.hid hs
  clear h hs
  unfold callV
  go_enter Tryz.func37, Tryz.ntmps37
  go_wp2_with (first
    | (go_at_call 50; refine (boolM ((((MHeld.nil H.out).alloc _).hold _).st.start) (by omega)).mono ?_; rintro e w1 ⟨r1, x1, vt1, ve1, vm1, rfl, ⟨t, rfl⟩, g1⟩; obtain ⟨hm, hb⟩ := MHeld.call ((((MHeld.nil H.out).alloc _).hold _)) g1; have hG := (hb _ (List.mem_singleton.2 rfl)).trans (heap_alloc_new _ _); rw [HS.out] at hm hG; clear hb g1; have y0 := cell_of_heap hG 0 rfl; have y1 := cell_of_heap hG 1 rfl; have y2 := cell_of_heap hG 2 rfl; have y3 := cell_of_heap hG 3 rfl; have z := free_of_heap hG; have z0 := z 0; have z1 := z 1; have z2 := z 2; have z3 := z 3; have HM := Lib.hid hm; have GH := Lib.hid hG; clear hm z hG)
    | (go_at_call 62; refine (one_any _ _).mono ?_; rintro e w2 ⟨rfl, rfl⟩))
  (try simp only [Exit.inBlock, Exit.then])
  refine bodyPost_ret (v := gotV (b01 t) (.slice none 0 0) 0 0) ?_ rfl ?_
  · exact results_cell_row rfl _ _ (w.heap.size + 1) 30 _ (0, 0) _ rfl (heap_setCell (heap_setCell (heap_setCell (heap_setCell (heap_setCell GH.out 0 _) 0 _) 1 _) 2 _) 3 _) Tryz.underlying30 rfl (by kernel_rfl)
  · exact got_end5 HM.out (by omega) _ _ _ _ _ _
theorem textM (h : MSt F w0 vm0 p n w x vt ve vm) (hn : n ≤ 999999) (op : Int) (h1 : 10 ≤ op) (h2 : op ≤ 15) (nn : Int) (pp : Option Addr) (sn sc : Nat) :
    Calls Tryz.prog 37 #[.pointer (some ⟨F.b, 0, none⟩), callV op nn (.slice pp sn sc)] w (MEnd F w0 vm0 p (n + 2) GotQ) := by
  have hop : op = 10 ∨ op = 11 ∨ op = 12 ∨ op = 13 ∨ op = 14 ∨ op = 15 := by omega
  rcases hop with rfl | rfl | rfl | rfl | rfl | rfl
  · exact mt_unsafe h hn nn pp sn sc
  · exact mt_unsafeBytes h hn nn pp sn sc
  · exact mt_name h hn nn pp sn sc
  · exact mt_string h hn nn pp sn sc
  · exact mt_bytes h hn nn pp sn sc
  · exact mt_bool h hn nn pp sn sc
end
end Go.Proofs.YtaecbclonmhbcaaGreatDoor

namespace Go.Proofs.YtaecbclonmhbcaaGreatDoor
open Go.RowKit
section
variable {F : Fix} {w0 w : World} {vm0 vt ve vm : Value} {p n : Nat} {x : Lx}
set_option maxHeartbeats 2000000 in
set_option maxRecDepth 100000 in
theorem mnum_16 (h : MSt F w0 vm0 p n w x vt ve vm) (hn : n ≤ 999999) : Calls Tryz.prog 38 #[.pointer (some ⟨F.b, 0, none⟩), .int .i64 16] w (MEnd F w0 vm0 p (n + 2) (NumQ (fun n => .int .i64 n))) := by
  have H := Lib.hid h
  clear h
  go_enter Tryz.func38, Tryz.ntmps38
  go_wp2_with (go_at_call 63; refine (uint8M H.out hn).mono ?_; rintro e w1 ⟨r1, x1, vt1, ve1, vm1, rfl, ⟨k, rfl⟩, g1⟩; have G1 := Lib.hid g1; clear g1)
  go_ret
  exact ⟨_, _, _, _, _, rfl, ⟨_, rfl⟩, G1.out⟩
set_option maxHeartbeats 2000000 in
set_option maxRecDepth 100000 in
theorem mnum_17 (h : MSt F w0 vm0 p n w x vt ve vm) (hn : n ≤ 999999) : Calls Tryz.prog 38 #[.pointer (some ⟨F.b, 0, none⟩), .int .i64 17] w (MEnd F w0 vm0 p (n + 2) (NumQ (fun n => .int .i64 n))) := by
  have H := Lib.hid h
  clear h
  go_enter Tryz.func38, Tryz.ntmps38
  go_wp2_with (go_at_call 64; refine (uint16M H.out hn).mono ?_; rintro e w1 ⟨r1, x1, vt1, ve1, vm1, rfl, ⟨k, rfl⟩, g1⟩; have G1 := Lib.hid g1; clear g1)
  go_ret
  exact ⟨_, _, _, _, _, rfl, ⟨_, rfl⟩, G1.out⟩
set_option maxHeartbeats 2000000 in
set_option maxRecDepth 100000 in
theorem mnum_18 (h : MSt F w0 vm0 p n w x vt ve vm) (hn : n ≤ 999999) : Calls Tryz.prog 38 #[.pointer (some ⟨F.b, 0, none⟩), .int .i64 18] w (MEnd F w0 vm0 p (n + 2) (NumQ (fun n => .int .i64 n))) := by
  have H := Lib.hid h
  clear h
  go_enter Tryz.func38, Tryz.ntmps38
  go_wp2_with (go_at_call 65; refine (uint32M H.out hn).mono ?_; rintro e w1 ⟨r1, x1, vt1, ve1, vm1, rfl, ⟨k, rfl⟩, g1⟩; have G1 := Lib.hid g1; clear g1)
  go_ret
  exact ⟨_, _, _, _, _, rfl, ⟨_, rfl⟩, G1.out⟩
set_option maxHeartbeats 2000000 in
set_option maxRecDepth 100000 in
theorem mnum_19 (h : MSt F w0 vm0 p n w x vt ve vm) (hn : n ≤ 999999) : Calls Tryz.prog 38 #[.pointer (some ⟨F.b, 0, none⟩), .int .i64 19] w (MEnd F w0 vm0 p (n + 2) (NumQ (fun n => .int .i64 n))) := by
  have H := Lib.hid h
  clear h
  go_enter Tryz.func38, Tryz.ntmps38
  go_wp2_with (go_at_call 66; refine (uint64M H.out hn).mono ?_; rintro e w1 ⟨r1, x1, vt1, ve1, vm1, rfl, ⟨k, rfl⟩, g1⟩; have G1 := Lib.hid g1; clear g1)
  go_ret
  exact ⟨_, _, _, _, _, rfl, ⟨_, rfl⟩, G1.out⟩
set_option maxHeartbeats 2000000 in
set_option maxRecDepth 100000 in
theorem mnum_20 (h : MSt F w0 vm0 p n w x vt ve vm) (hn : n ≤ 999999) : Calls Tryz.prog 38 #[.pointer (some ⟨F.b, 0, none⟩), .int .i64 20] w (MEnd F w0 vm0 p (n + 2) (NumQ (fun n => .int .i64 n))) := by
  have H := Lib.hid h
  clear h
  go_enter Tryz.func38, Tryz.ntmps38
  go_wp2_with (go_at_call 67; refine (uintM H.out hn).mono ?_; rintro e w1 ⟨r1, x1, vt1, ve1, vm1, rfl, ⟨k, rfl⟩, g1⟩; have G1 := Lib.hid g1; clear g1)
  go_ret
  exact ⟨_, _, _, _, _, rfl, ⟨_, rfl⟩, G1.out⟩
set_option maxHeartbeats 2000000 in
set_option maxRecDepth 100000 in
theorem mnum_21 (h : MSt F w0 vm0 p n w x vt ve vm) (hn : n ≤ 999999) : Calls Tryz.prog 38 #[.pointer (some ⟨F.b, 0, none⟩), .int .i64 21] w (MEnd F w0 vm0 p (n + 2) (NumQ (fun n => .int .i64 n))) := by
  have H := Lib.hid h
  clear h
  go_enter Tryz.func38, Tryz.ntmps38
  go_wp2_with (go_at_call 68; refine (int8M H.out hn).mono ?_; rintro e w1 ⟨r1, x1, vt1, ve1, vm1, rfl, ⟨k, rfl⟩, g1⟩; have G1 := Lib.hid g1; clear g1)
  go_ret
  exact ⟨_, _, _, _, _, rfl, ⟨_, rfl⟩, G1.out⟩
set_option maxHeartbeats 2000000 in
set_option maxRecDepth 100000 in
theorem mnum_22 (h : MSt F w0 vm0 p n w x vt ve vm) (hn : n ≤ 999999) : Calls Tryz.prog 38 #[.pointer (some ⟨F.b, 0, none⟩), .int .i64 22] w (MEnd F w0 vm0 p (n + 2) (NumQ (fun n => .int .i64 n))) := by
  have H := Lib.hid h
  clear h
  go_enter Tryz.func38, Tryz.ntmps38
  go_wp2_with (go_at_call 69; refine (int16M H.out hn).mono ?_; rintro e w1 ⟨r1, x1, vt1, ve1, vm1, rfl, ⟨k, rfl⟩, g1⟩; have G1 := Lib.hid g1; clear g1)
  go_ret
  exact ⟨_, _, _, _, _, rfl, ⟨_, rfl⟩, G1.out⟩
set_option maxHeartbeats 2000000 in
set_option maxRecDepth 100000 in
theorem mnum_23 (h : MSt F w0 vm0 p n w x vt ve vm) (hn : n ≤ 999999) : Calls Tryz.prog 38 #[.pointer (some ⟨F.b, 0, none⟩), .int .i64 23] w (MEnd F w0 vm0 p (n + 2) (NumQ (fun n => .int .i64 n))) := by
  have H := Lib.hid h
  clear h
  go_enter Tryz.func38, Tryz.ntmps38
  go_wp2_with (go_at_call 70; refine (int32M H.out hn).mono ?_; rintro e w1 ⟨r1, x1, vt1, ve1, vm1, rfl, ⟨k, rfl⟩, g1⟩; have G1 := Lib.hid g1; clear g1)
  go_ret
  exact ⟨_, _, _, _, _, rfl, ⟨_, rfl⟩, G1.out⟩
set_option maxHeartbeats 2000000 in
set_option maxRecDepth 100000 in
theorem mnum_24 (h : MSt F w0 vm0 p n w x vt ve vm) (hn : n ≤ 999999) : Calls Tryz.prog 38 #[.pointer (some ⟨F.b, 0, none⟩), .int .i64 24] w (MEnd F w0 vm0 p (n + 2) (NumQ (fun n => .int .i64 n))) := by
  have H := Lib.hid h
  clear h
  go_enter Tryz.func38, Tryz.ntmps38
  go_wp2_with (go_at_call 71; refine (int64M H.out hn).mono ?_; rintro e w1 ⟨r1, x1, vt1, ve1, vm1, rfl, ⟨k, rfl⟩, g1⟩; have G1 := Lib.hid g1; clear g1)
  go_ret
  exact ⟨_, _, _, _, _, rfl, ⟨_, rfl⟩, G1.out⟩
set_option maxHeartbeats 2000000 in
set_option maxRecDepth 100000 in
theorem mnum_25 (h : MSt F w0 vm0 p n w x vt ve vm) (hn : n ≤ 999999) : Calls Tryz.prog 38 #[.pointer (some ⟨F.b, 0, none⟩), .int .i64 25] w (MEnd F w0 vm0 p (n + 2) (NumQ (fun n => .int .i64 n))) := by
  have H := Lib.hid h
  clear h
  go_enter Tryz.func38, Tryz.ntmps38
  go_wp2_with (go_at_call 72; refine (intM H.out hn).mono ?_; rintro e w1 ⟨r1, x1, vt1, ve1, vm1, rfl, ⟨k, rfl⟩, g1⟩; have G1 := Lib.hid g1; clear g1)
  go_ret
  exact ⟨_, _, _, _, _, rfl, ⟨_, rfl⟩, G1.out⟩
set_option maxHeartbeats 2000000 in
set_option maxRecDepth 100000 in
theorem mquo_28 (h : MSt F w0 vm0 p n w x vt ve vm) (hn : n ≤ 999999) : Calls Tryz.prog 39 #[.pointer (some ⟨F.b, 0, none⟩), .int .i64 28] w (MEnd F w0 vm0 p (n + 2) (NumQ (fun n => .int .i64 n))) := by
  have H := Lib.hid h
  clear h
  go_enter Tryz.func39, Tryz.ntmps39
  go_wp2_with (go_at_call 74; refine (uint8StrM H.out hn).mono ?_; rintro e w1 ⟨r1, x1, vt1, ve1, vm1, rfl, ⟨k, rfl⟩, g1⟩; have G1 := Lib.hid g1; clear g1)
  go_ret
  exact ⟨_, _, _, _, _, rfl, ⟨_, rfl⟩, G1.out⟩
set_option maxHeartbeats 2000000 in
set_option maxRecDepth 100000 in
theorem mquo_29 (h : MSt F w0 vm0 p n w x vt ve vm) (hn : n ≤ 999999) : Calls Tryz.prog 39 #[.pointer (some ⟨F.b, 0, none⟩), .int .i64 29] w (MEnd F w0 vm0 p (n + 2) (NumQ (fun n => .int .i64 n))) := by
  have H := Lib.hid h
  clear h
  go_enter Tryz.func39, Tryz.ntmps39
  go_wp2_with (go_at_call 75; refine (uint16StrM H.out hn).mono ?_; rintro e w1 ⟨r1, x1, vt1, ve1, vm1, rfl, ⟨k, rfl⟩, g1⟩; have G1 := Lib.hid g1; clear g1)
  go_ret
  exact ⟨_, _, _, _, _, rfl, ⟨_, rfl⟩, G1.out⟩
set_option maxHeartbeats 2000000 in
set_option maxRecDepth 100000 in
theorem mquo_30 (h : MSt F w0 vm0 p n w x vt ve vm) (hn : n ≤ 999999) : Calls Tryz.prog 39 #[.pointer (some ⟨F.b, 0, none⟩), .int .i64 30] w (MEnd F w0 vm0 p (n + 2) (NumQ (fun n => .int .i64 n))) := by
  have H := Lib.hid h
  clear h
  go_enter Tryz.func39, Tryz.ntmps39
  go_wp2_with (go_at_call 76; refine (uint32StrM H.out hn).mono ?_; rintro e w1 ⟨r1, x1, vt1, ve1, vm1, rfl, ⟨k, rfl⟩, g1⟩; have G1 := Lib.hid g1; clear g1)
  go_ret
  exact ⟨_, _, _, _, _, rfl, ⟨_, rfl⟩, G1.out⟩
set_option maxHeartbeats 2000000 in
set_option maxRecDepth 100000 in
theorem mquo_31 (h : MSt F w0 vm0 p n w x vt ve vm) (hn : n ≤ 999999) : Calls Tryz.prog 39 #[.pointer (some ⟨F.b, 0, none⟩), .int .i64 31] w (MEnd F w0 vm0 p (n + 2) (NumQ (fun n => .int .i64 n))) := by
  have H := Lib.hid h
  clear h
  go_enter Tryz.func39, Tryz.ntmps39
  go_wp2_with (go_at_call 77; refine (uint64StrM H.out hn).mono ?_; rintro e w1 ⟨r1, x1, vt1, ve1, vm1, rfl, ⟨k, rfl⟩, g1⟩; have G1 := Lib.hid g1; clear g1)
  go_ret
  exact ⟨_, _, _, _, _, rfl, ⟨_, rfl⟩, G1.out⟩
set_option maxHeartbeats 2000000 in
set_option maxRecDepth 100000 in
theorem mquo_32 (h : MSt F w0 vm0 p n w x vt ve vm) (hn : n ≤ 999999) : Calls Tryz.prog 39 #[.pointer (some ⟨F.b, 0, none⟩), .int .i64 32] w (MEnd F w0 vm0 p (n + 2) (NumQ (fun n => .int .i64 n))) := by
  have H := Lib.hid h
  clear h
  go_enter Tryz.func39, Tryz.ntmps39
  go_wp2_with (go_at_call 78; refine (uintStrM H.out hn).mono ?_; rintro e w1 ⟨r1, x1, vt1, ve1, vm1, rfl, ⟨k, rfl⟩, g1⟩; have G1 := Lib.hid g1; clear g1)
  go_ret
  exact ⟨_, _, _, _, _, rfl, ⟨_, rfl⟩, G1.out⟩
set_option maxHeartbeats 2000000 in
set_option maxRecDepth 100000 in
theorem mquo_33 (h : MSt F w0 vm0 p n w x vt ve vm) (hn : n ≤ 999999) : Calls Tryz.prog 39 #[.pointer (some ⟨F.b, 0, none⟩), .int .i64 33] w (MEnd F w0 vm0 p (n + 2) (NumQ (fun n => .int .i64 n))) := by
  have H := Lib.hid h
  clear h
  go_enter Tryz.func39, Tryz.ntmps39
  go_wp2_with (go_at_call 79; refine (int8StrM H.out hn).mono ?_; rintro e w1 ⟨r1, x1, vt1, ve1, vm1, rfl, ⟨k, rfl⟩, g1⟩; have G1 := Lib.hid g1; clear g1)
  go_ret
  exact ⟨_, _, _, _, _, rfl, ⟨_, rfl⟩, G1.out⟩
set_option maxHeartbeats 2000000 in
set_option maxRecDepth 100000 in
theorem mquo_34 (h : MSt F w0 vm0 p n w x vt ve vm) (hn : n ≤ 999999) : Calls Tryz.prog 39 #[.pointer (some ⟨F.b, 0, none⟩), .int .i64 34] w (MEnd F w0 vm0 p (n + 2) (NumQ (fun n => .int .i64 n))) := by
  have H := Lib.hid h
  clear h
  go_enter Tryz.func39, Tryz.ntmps39
  go_wp2_with (go_at_call 80; refine (int16StrM H.out hn).mono ?_; rintro e w1 ⟨r1, x1, vt1, ve1, vm1, rfl, ⟨k, rfl⟩, g1⟩; have G1 := Lib.hid g1; clear g1)
  go_ret
  exact ⟨_, _, _, _, _, rfl, ⟨_, rfl⟩, G1.out⟩
set_option maxHeartbeats 2000000 in
set_option maxRecDepth 100000 in
theorem mquo_35 (h : MSt F w0 vm0 p n w x vt ve vm) (hn : n ≤ 999999) : Calls Tryz.prog 39 #[.pointer (some ⟨F.b, 0, none⟩), .int .i64 35] w (MEnd F w0 vm0 p (n + 2) (NumQ (fun n => .int .i64 n))) := by
  have H := Lib.hid h
  clear h
  go_enter Tryz.func39, Tryz.ntmps39
  go_wp2_with (go_at_call 81; refine (int32StrM H.out hn).mono ?_; rintro e w1 ⟨r1, x1, vt1, ve1, vm1, rfl, ⟨k, rfl⟩, g1⟩; have G1 := Lib.hid g1; clear g1)
  go_ret
  exact ⟨_, _, _, _, _, rfl, ⟨_, rfl⟩, G1.out⟩
set_option maxHeartbeats 2000000 in
set_option maxRecDepth 100000 in
theorem mquo_36 (h : MSt F w0 vm0 p n w x vt ve vm) (hn : n ≤ 999999) : Calls Tryz.prog 39 #[.pointer (some ⟨F.b, 0, none⟩), .int .i64 36] w (MEnd F w0 vm0 p (n + 2) (NumQ (fun n => .int .i64 n))) := by
  have H := Lib.hid h
  clear h
  go_enter Tryz.func39, Tryz.ntmps39
  go_wp2_with (go_at_call 82; refine (int64StrM H.out hn).mono ?_; rintro e w1 ⟨r1, x1, vt1, ve1, vm1, rfl, ⟨k, rfl⟩, g1⟩; have G1 := Lib.hid g1; clear g1)
  go_ret
  exact ⟨_, _, _, _, _, rfl, ⟨_, rfl⟩, G1.out⟩
set_option maxHeartbeats 2000000 in
set_option maxRecDepth 100000 in
theorem mquo_37 (h : MSt F w0 vm0 p n w x vt ve vm) (hn : n ≤ 999999) : Calls Tryz.prog 39 #[.pointer (some ⟨F.b, 0, none⟩), .int .i64 37] w (MEnd F w0 vm0 p (n + 2) (NumQ (fun n => .int .i64 n))) := by
  have H := Lib.hid h
  clear h
  go_enter Tryz.func39, Tryz.ntmps39
  go_wp2_with (go_at_call 83; refine (intStrM H.out hn).mono ?_; rintro e w1 ⟨r1, x1, vt1, ve1, vm1, rfl, ⟨k, rfl⟩, g1⟩; have G1 := Lib.hid g1; clear g1)
  go_ret
  exact ⟨_, _, _, _, _, rfl, ⟨_, rfl⟩, G1.out⟩
end
end Go.Proofs.YtaecbclonmhbcaaGreatDoor

namespace Go.Proofs.YtaecbclonmhbcaaGreatDoor
open Go.RowKit
section
variable {F : Fix} {w0 w : World} {vm0 vt ve vm : Value} {p n : Nat} {x : Lx}
set_option maxHeartbeats 4000000 in
set_option maxRecDepth 100000 in
theorem float64M (h : MSt F w0 vm0 p n w x vt ve vm) (hn : n ≤ 999999) : Calls Tryz.prog 52 #[.pointer (some ⟨F.b, 0, none⟩)] w (MEnd F w0 vm0 p (n + 2) (NumQ (fun n => .float .f64 n.toNat))) := by
  have H := Lib.hid h
  have hm (N : Nat) : ∀ W, (method 390 171 (.pointer (some ⟨N, 0, none⟩)) "Error").run Tryz.prog W = .ok (279, .pointer (some ⟨N, 0, none⟩)) W := fun W => by show _ = _; kernel_rfl
  have HM := Lib.hid hm
  clear h hm
  go_enter Tryz.func52, Tryz.ntmps52
  go_wp2_with (first
    | (go_at_call 106; refine (numberM H.out (by omega)).mono ?_; rintro e w1 ⟨r1, x1, vt1, ve1, vm1, rfl, ⟨s, rfl, hs⟩, g1⟩; have HT := Lib.hid g1.gr.tabs; have G1 := Lib.hid g1; clear g1)
    | (go_at_call 47; refine (okM G1.out).mono ?_; rintro e w2 ⟨he, rfl⟩; rcases Bool.eq_false_or_eq_true x1.ok with ho | ho <;> rw [ho] at he <;> clear ho <;> subst he)
    | (go_at_call 107; refine (parseFloat64_all s _ hs HT.out.fl HT.out.c3 HT.out.c4).mono ?_; rintro e w2 ⟨u, er, rfl, hne, hk⟩; have HK := Lib.hid (below_of_kept hk); have HNE := Lib.hid hne; clear hk hne; rcases HNE.out with rfl | ⟨N, g, fn, ev, rfl, hN, hh, hf, hg, hc⟩))
  · go_ret
    exact ⟨_, _, _, _, _, rfl, ⟨Int.ofNat _, rfl⟩, (G1.out.below HK.out).le (Nat.le_succ _)⟩
  · have hmN := HM.out N
    have HH := Lib.hid hh
    have HC := Lib.hid hc
    have HT2 := Lib.hid (HT.out.below HK.out)
    have G3 := Lib.hid (G1.out.below HK.out)
    have c1 := G3.out.mx.lx.c1
    clear hh hc
    go_region_with (first
      | (go_at_call 279; refine (numErrText_any (HT2.out.below (below_drewN _ _)) HH.out hf hs hg HC.out).mono ?_; rintro e w3 ⟨⟨t, rfl⟩, hb3⟩; have G4 := Lib.hid ((G3.out.drewN _).below hb3); have d1 := G4.out.mx.lx.c1; clear hb3)
      | (go_at_call 108; refine (addM_new G4.out (by omega) _ _ (G4.out.startLe)).mono ?_; rintro e w4 ⟨r4, x4, vt4, ve4, vm4, rfl, ⟨rfl, hx4⟩, g4⟩; have H4 := Lib.hid g4; clear g4 hx4))
    all_goals
      go_wp2
      go_ret
      exact ⟨_, _, _, _, _, rfl, ⟨Int.ofNat _, rfl⟩, H4.out⟩
  · go_ret
    exact ⟨_, _, _, _, _, rfl, ⟨0, rfl⟩, G1.out.le (Nat.le_succ _)⟩
set_option maxHeartbeats 4000000 in
set_option maxRecDepth 100000 in
theorem float32M (h : MSt F w0 vm0 p n w x vt ve vm) (hn : n ≤ 999999) : Calls Tryz.prog 73 #[.pointer (some ⟨F.b, 0, none⟩)] w (MEnd F w0 vm0 p (n + 2) (NumQ (fun n => .float .f32 n.toNat))) := by
  have H := Lib.hid h
  have hm (N : Nat) : ∀ W, (method 390 171 (.pointer (some ⟨N, 0, none⟩)) "Error").run Tryz.prog W = .ok (279, .pointer (some ⟨N, 0, none⟩)) W := fun W => by show _ = _; kernel_rfl
  have HM := Lib.hid hm
  clear h hm
  have hnf := run_narrowF
  go_enter Tryz.func73, Tryz.ntmps73
  go_wp2_with (first
    | (go_at_call 106; refine (numberM H.out (by omega)).mono ?_; rintro e w1 ⟨r1, x1, vt1, ve1, vm1, rfl, ⟨s, rfl, hs⟩, g1⟩; have HT := Lib.hid g1.gr.tabs; have G1 := Lib.hid g1; clear g1)
    | (go_at_call 47; refine (okM G1.out).mono ?_; rintro e w2 ⟨he, rfl⟩; rcases Bool.eq_false_or_eq_true x1.ok with ho | ho <;> rw [ho] at he <;> clear ho <;> subst he)
    | (go_at_call 107; refine (parseFloat32_all s _ hs HT.out.fl HT.out.c3 HT.out.c4).mono ?_; rintro e w2 ⟨u, er, rfl, hne, hk⟩; have HK := Lib.hid (below_of_kept hk); have HNE := Lib.hid hne; clear hk hne; rcases HNE.out with rfl | ⟨N, g, fn, ev, rfl, hN, hh, hf, hg, hc⟩))
  · go_ret
    exact ⟨_, _, _, _, _, rfl, ⟨Int.ofNat _, rfl⟩, ((G1.out.below HK.out).drewN _).le (Nat.le_succ _)⟩
  · have hmN := HM.out N
    have HH := Lib.hid hh
    have HC := Lib.hid hc
    have HT2 := Lib.hid (HT.out.below HK.out)
    have G3 := Lib.hid (G1.out.below HK.out)
    have c1 := G3.out.mx.lx.c1
    clear hh hc
    go_region_with (first
      | (go_at_call 279; refine (numErrText_any (HT2.out.below (below_drewN _ _)) HH.out hf hs hg HC.out).mono ?_; rintro e w3 ⟨⟨t, rfl⟩, hb3⟩; have G4 := Lib.hid ((G3.out.drewN _).below hb3); have d1 := G4.out.mx.lx.c1; clear hb3)
      | (go_at_call 108; refine (addM_new G4.out (by omega) _ _ (G4.out.startLe)).mono ?_; rintro e w4 ⟨r4, x4, vt4, ve4, vm4, rfl, ⟨rfl, hx4⟩, g4⟩; have H4 := Lib.hid g4; clear g4 hx4))
    all_goals
      go_wp2
      go_ret
      exact ⟨_, _, _, _, _, rfl, ⟨Int.ofNat _, rfl⟩, H4.out.drewN _⟩
  · go_ret
    exact ⟨_, _, _, _, _, rfl, ⟨0, rfl⟩, G1.out.le (Nat.le_succ _)⟩
set_option maxHeartbeats 4000000 in
set_option maxRecDepth 100000 in
theorem float64StrM (h : MSt F w0 vm0 p n w x vt ve vm) (hn : n ≤ 999999) : Calls Tryz.prog 85 #[.pointer (some ⟨F.b, 0, none⟩)] w (MEnd F w0 vm0 p (n + 2) (NumQ (fun n => .float .f64 n.toNat))) := by
  have H := Lib.hid h
  have hm (N : Nat) : ∀ W, (method 390 171 (.pointer (some ⟨N, 0, none⟩)) "Error").run Tryz.prog W = .ok (279, .pointer (some ⟨N, 0, none⟩)) W := fun W => by show _ = _; kernel_rfl
  have HM := Lib.hid hm
  clear h hm
  go_enter Tryz.func85, Tryz.ntmps85
  go_wp2_with (first
    | (go_at_call 111; refine (usM_false H.out (by omega)).mono ?_; rintro e w1 ⟨r1, x1, vt1, ve1, vm1, rfl, ⟨s, vb, lb, rfl, hs, hbt, hbl⟩, g1⟩; have HBT := Lib.hid hbt; clear hbt; have HT := Lib.hid g1.gr.tabs; have G1 := Lib.hid g1; clear g1)
    | (go_at_call 47; refine (okM G1.out).mono ?_; rintro e w2 ⟨he, rfl⟩; rcases Bool.eq_false_or_eq_true x1.ok with ho | ho <;> rw [ho] at he <;> clear ho <;> subst he)
    | (go_at_call 107; refine (parseFloat64_all s _ hs HT.out.fl HT.out.c3 HT.out.c4).mono ?_; rintro e w2 ⟨u, er, rfl, hne, hk⟩; have HK := Lib.hid (below_of_kept hk); have HNE := Lib.hid hne; clear hk hne; rcases HNE.out with rfl | ⟨N, g, fn, ev, rfl, hN, hh, hf, hg, hc⟩))
  · go_ret
    exact ⟨_, _, _, _, _, rfl, ⟨Int.ofNat _, rfl⟩, (G1.out.below HK.out).le (Nat.le_succ _)⟩
  · have hmN := HM.out N
    have HH := Lib.hid hh
    have HC := Lib.hid hc
    have HT2 := Lib.hid (HT.out.below HK.out)
    have G3 := Lib.hid (G1.out.below HK.out)
    have c1 := G3.out.mx.lx.c1
    clear hh hc
    have hb2 := HBT.out.kept (kept_below HK.out F.b)
    have hcv1 : (convert 22 9 vb).run Tryz.prog w2.drew = .ok (.string (strOfNums lb)) w2.drew := run_bytes_str (hb2.kept (kept_below (below_drewN w2 1) F.b)) 0 9 Tryz.underlying9
    have hcv2 : ∀ k, (convert 22 9 vb).run Tryz.prog (w2.drewN k) = .ok (.string (strOfNums lb)) (w2.drewN k) := fun k => run_bytes_str hb2 k 9 Tryz.underlying9
    clear hb2
    go_region_with (first
      | (go_at_call 279; refine (numErrText_any (HT2.out.below (below_drewN _ _)) HH.out hf hs hg HC.out).mono ?_; rintro e w3 ⟨⟨t, rfl⟩, hb3⟩; obtain ⟨hcv⟩ : Nonempty ((convert 22 9 vb).run Tryz.prog w3 = .ok (.string (strOfNums lb)) w3) := ⟨run_bytes_str (((HBT.out.kept (kept_below HK.out F.b)).kept (kept_below (below_drewN _ _) F.b)).kept (kept_below hb3 F.b)) 0 9 Tryz.underlying9⟩; have G4 := Lib.hid ((G3.out.drewN _).below hb3); have d1 := G4.out.mx.lx.c1; clear hb3)
      | (go_at_call 108; refine (addM_new G4.out (by omega) _ _ (G4.out.startLe)).mono ?_; rintro e w4 ⟨r4, x4, vt4, ve4, vm4, rfl, ⟨rfl, hx4⟩, g4⟩; have H4 := Lib.hid g4; clear g4 hx4))
    all_goals
      go_wp2
      go_ret
      exact ⟨_, _, _, _, _, rfl, ⟨Int.ofNat _, rfl⟩, H4.out⟩
  · go_ret
    exact ⟨_, _, _, _, _, rfl, ⟨0, rfl⟩, G1.out.le (Nat.le_succ _)⟩
set_option maxHeartbeats 4000000 in
set_option maxRecDepth 100000 in
theorem float32StrM (h : MSt F w0 vm0 p n w x vt ve vm) (hn : n ≤ 999999) : Calls Tryz.prog 84 #[.pointer (some ⟨F.b, 0, none⟩)] w (MEnd F w0 vm0 p (n + 2) (NumQ (fun n => .float .f32 n.toNat))) := by
  have H := Lib.hid h
  have hm (N : Nat) : ∀ W, (method 390 171 (.pointer (some ⟨N, 0, none⟩)) "Error").run Tryz.prog W = .ok (279, .pointer (some ⟨N, 0, none⟩)) W := fun W => by show _ = _; kernel_rfl
  have HM := Lib.hid hm
  clear h hm
  have hnf := run_narrowF
  go_enter Tryz.func84, Tryz.ntmps84
  go_wp2_with (first
    | (go_at_call 111; refine (usM_false H.out (by omega)).mono ?_; rintro e w1 ⟨r1, x1, vt1, ve1, vm1, rfl, ⟨s, vb, lb, rfl, hs, hbt, hbl⟩, g1⟩; have HBT := Lib.hid hbt; clear hbt; have HT := Lib.hid g1.gr.tabs; have G1 := Lib.hid g1; clear g1)
    | (go_at_call 47; refine (okM G1.out).mono ?_; rintro e w2 ⟨he, rfl⟩; rcases Bool.eq_false_or_eq_true x1.ok with ho | ho <;> rw [ho] at he <;> clear ho <;> subst he)
    | (go_at_call 107; refine (parseFloat32_all s _ hs HT.out.fl HT.out.c3 HT.out.c4).mono ?_; rintro e w2 ⟨u, er, rfl, hne, hk⟩; have HK := Lib.hid (below_of_kept hk); have HNE := Lib.hid hne; clear hk hne; rcases HNE.out with rfl | ⟨N, g, fn, ev, rfl, hN, hh, hf, hg, hc⟩))
  · go_ret
    exact ⟨_, _, _, _, _, rfl, ⟨Int.ofNat _, rfl⟩, ((G1.out.below HK.out).drewN _).le (Nat.le_succ _)⟩
  · have hmN := HM.out N
    have HH := Lib.hid hh
    have HC := Lib.hid hc
    have HT2 := Lib.hid (HT.out.below HK.out)
    have G3 := Lib.hid (G1.out.below HK.out)
    have c1 := G3.out.mx.lx.c1
    clear hh hc
    have hb2 := HBT.out.kept (kept_below HK.out F.b)
    have hcv1 : (convert 22 9 vb).run Tryz.prog w2.drew = .ok (.string (strOfNums lb)) w2.drew := run_bytes_str (hb2.kept (kept_below (below_drewN w2 1) F.b)) 0 9 Tryz.underlying9
    have hcv2 : ∀ k, (convert 22 9 vb).run Tryz.prog (w2.drewN k) = .ok (.string (strOfNums lb)) (w2.drewN k) := fun k => run_bytes_str hb2 k 9 Tryz.underlying9
    clear hb2
    go_region_with (first
      | (go_at_call 279; refine (numErrText_any (HT2.out.below (below_drewN _ _)) HH.out hf hs hg HC.out).mono ?_; rintro e w3 ⟨⟨t, rfl⟩, hb3⟩; obtain ⟨hcv⟩ : Nonempty ((convert 22 9 vb).run Tryz.prog w3 = .ok (.string (strOfNums lb)) w3) := ⟨run_bytes_str (((HBT.out.kept (kept_below HK.out F.b)).kept (kept_below (below_drewN _ _) F.b)).kept (kept_below hb3 F.b)) 0 9 Tryz.underlying9⟩; have G4 := Lib.hid ((G3.out.drewN _).below hb3); have d1 := G4.out.mx.lx.c1; clear hb3)
      | (go_at_call 108; refine (addM_new G4.out (by omega) _ _ (G4.out.startLe)).mono ?_; rintro e w4 ⟨r4, x4, vt4, ve4, vm4, rfl, ⟨rfl, hx4⟩, g4⟩; have H4 := Lib.hid g4; clear g4 hx4))
    all_goals
      go_wp2
      go_ret
      exact ⟨_, _, _, _, _, rfl, ⟨Int.ofNat _, rfl⟩, H4.out.drewN _⟩
  · go_ret
    exact ⟨_, _, _, _, _, rfl, ⟨0, rfl⟩, G1.out.le (Nat.le_succ _)⟩
end
end Go.Proofs.YtaecbclonmhbcaaGreatDoor

namespace Go.Proofs.YtaecbclonmhbcaaGreatDoor
open Go.RowKit
section
variable {F : Fix} {w0 w : World} {vm0 vt ve vm : Value} {p n : Nat} {x : Lx}
set_option maxHeartbeats 2000000 in
set_option maxRecDepth 100000 in
theorem mflo_26 (h : MSt F w0 vm0 p n w x vt ve vm) (hn : n ≤ 999999) : Calls Tryz.prog 38 #[.pointer (some ⟨F.b, 0, none⟩), .int .i64 26] w (MEnd F w0 vm0 p (n + 2) (NumQ (fun n => .int .i64 n))) := by
  have H := Lib.hid h
  clear h
  go_enter Tryz.func38, Tryz.ntmps38
  go_wp2_with (first
    | (go_at_call 73; refine (float32M H.out hn).mono ?_; rintro e w1 ⟨r1, x1, vt1, ve1, vm1, rfl, ⟨k, rfl⟩, g1⟩; have G1 := Lib.hid g1; clear g1; obtain ⟨r, q, hcv⟩ := run_widen k.toNat w1)
    | (go_at_call 51; refine (bits_any _ _).mono ?_; rintro e w2 ⟨rfl, rfl⟩))
  go_ret
  exact ⟨_, _, _, _, _, rfl, ⟨_, rfl⟩, G1.out.drewN _⟩
set_option maxHeartbeats 2000000 in
set_option maxRecDepth 100000 in
theorem mflo_27 (h : MSt F w0 vm0 p n w x vt ve vm) (hn : n ≤ 999999) : Calls Tryz.prog 38 #[.pointer (some ⟨F.b, 0, none⟩), .int .i64 27] w (MEnd F w0 vm0 p (n + 2) (NumQ (fun n => .int .i64 n))) := by
  have H := Lib.hid h
  clear h
  go_enter Tryz.func38, Tryz.ntmps38
  go_wp2_with (first
    | (go_at_call 52; refine (float64M H.out hn).mono ?_; rintro e w1 ⟨r1, x1, vt1, ve1, vm1, rfl, ⟨k, rfl⟩, g1⟩; have G1 := Lib.hid g1; clear g1)
    | (go_at_call 51; refine (bits_any _ _).mono ?_; rintro e w2 ⟨rfl, rfl⟩))
  go_ret
  exact ⟨_, _, _, _, _, rfl, ⟨_, rfl⟩, G1.out⟩
set_option maxHeartbeats 2000000 in
set_option maxRecDepth 100000 in
theorem mflo_38 (h : MSt F w0 vm0 p n w x vt ve vm) (hn : n ≤ 999999) : Calls Tryz.prog 39 #[.pointer (some ⟨F.b, 0, none⟩), .int .i64 38] w (MEnd F w0 vm0 p (n + 2) (NumQ (fun n => .int .i64 n))) := by
  have H := Lib.hid h
  clear h
  go_enter Tryz.func39, Tryz.ntmps39
  go_wp2_with (first
    | (go_at_call 84; refine (float32StrM H.out hn).mono ?_; rintro e w1 ⟨r1, x1, vt1, ve1, vm1, rfl, ⟨k, rfl⟩, g1⟩; have G1 := Lib.hid g1; clear g1; obtain ⟨r, q, hcv⟩ := run_widen k.toNat w1)
    | (go_at_call 51; refine (bits_any _ _).mono ?_; rintro e w2 ⟨rfl, rfl⟩))
  go_ret
  exact ⟨_, _, _, _, _, rfl, ⟨_, rfl⟩, G1.out.drewN _⟩
set_option maxHeartbeats 2000000 in
set_option maxRecDepth 100000 in
theorem mflo_39 (h : MSt F w0 vm0 p n w x vt ve vm) (hn : n ≤ 999999) : Calls Tryz.prog 39 #[.pointer (some ⟨F.b, 0, none⟩), .int .i64 39] w (MEnd F w0 vm0 p (n + 2) (NumQ (fun n => .int .i64 n))) := by
  have H := Lib.hid h
  clear h
  go_enter Tryz.func39, Tryz.ntmps39
  go_wp2_with (first
    | (go_at_call 85; refine (float64StrM H.out hn).mono ?_; rintro e w1 ⟨r1, x1, vt1, ve1, vm1, rfl, ⟨k, rfl⟩, g1⟩; have G1 := Lib.hid g1; clear g1)
    | (go_at_call 51; refine (bits_any _ _).mono ?_; rintro e w2 ⟨rfl, rfl⟩))
  go_ret
  exact ⟨_, _, _, _, _, rfl, ⟨_, rfl⟩, G1.out⟩
theorem numberOpM (h : MSt F w0 vm0 p n w x vt ve vm) (hn : n ≤ 999999) (op : Int) (h0 : 16 ≤ op) (h1 : op ≤ 27) : Calls Tryz.prog 38 #[.pointer (some ⟨F.b, 0, none⟩), .int .i64 op] w (MEnd F w0 vm0 p (n + 2) (NumQ (fun n => .int .i64 n))) := by
  have : op = 16 ∨ op = 17 ∨ op = 18 ∨ op = 19 ∨ op = 20 ∨ op = 21 ∨ op = 22 ∨ op = 23 ∨ op = 24 ∨ op = 25 ∨ op = 26 ∨ op = 27 := by omega
  rcases this with rfl | rfl | rfl | rfl | rfl | rfl | rfl | rfl | rfl | rfl | rfl | rfl
  · exact mnum_16 h hn
  · exact mnum_17 h hn
  · exact mnum_18 h hn
  · exact mnum_19 h hn
  · exact mnum_20 h hn
  · exact mnum_21 h hn
  · exact mnum_22 h hn
  · exact mnum_23 h hn
  · exact mnum_24 h hn
  · exact mnum_25 h hn
  · exact mflo_26 h hn
  · exact mflo_27 h hn
theorem quotedOpM (h : MSt F w0 vm0 p n w x vt ve vm) (hn : n ≤ 999999) (op : Int) (h0 : 28 ≤ op) (h1 : op ≤ 39) : Calls Tryz.prog 39 #[.pointer (some ⟨F.b, 0, none⟩), .int .i64 op] w (MEnd F w0 vm0 p (n + 2) (NumQ (fun n => .int .i64 n))) := by
  have : op = 28 ∨ op = 29 ∨ op = 30 ∨ op = 31 ∨ op = 32 ∨ op = 33 ∨ op = 34 ∨ op = 35 ∨ op = 36 ∨ op = 37 ∨ op = 38 ∨ op = 39 := by omega
  rcases this with rfl | rfl | rfl | rfl | rfl | rfl | rfl | rfl | rfl | rfl | rfl | rfl
  · exact mquo_28 h hn
  · exact mquo_29 h hn
  · exact mquo_30 h hn
  · exact mquo_31 h hn
  · exact mquo_32 h hn
  · exact mquo_33 h hn
  · exact mquo_34 h hn
  · exact mquo_35 h hn
  · exact mquo_36 h hn
  · exact mquo_37 h hn
  · exact mflo_38 h hn
  · exact mflo_39 h hn
end
end Go.Proofs.YtaecbclonmhbcaaGreatDoor
