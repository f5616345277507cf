/- impl.walk. Printed by gen_grl.py. -/
import Derived.Test.YtaecbclonmhbcaaGreatDoorR31
set_option linter.unusedVariables false
set_option linter.unusedSimpArgs false
namespace Go.Proofs.YtaecbclonmhbcaaGreatDoor
open Go.RowKit
section
variable {w : World} {b k n : Nat} {ae : Sur} {ao : Addr} {o : Int} {x : Lx} {vd vt ve : Value}
set_option maxHeartbeats 4000000 in
set_option maxRecDepth 100000 in
theorem walk_bad (h : Wk w b ae ao k o x vd vt ve) (hyo : x.peek.ok = false) :
    Calls Tryz.prog 32 #[.pointer (some ⟨b, 0, none⟩), .int .i64 n, .pointer (some ⟨k, 0, none⟩)] w (WDone w b k ae ao x vd) := by
  have hcur : x.current = 0 := by unfold Lx.current Lx.currentR; rw [hyo]; rfl
  have HYO := Lib.hid hyo
  clear hyo
  obtain ⟨B, hB⟩ : ∃ B, w.heap.size = B := ⟨_, rfl⟩
  have hbB : b < B := by rw [← hB]; exact h.lx.lt
  have h1B : 1 < B := Nat.lt_trans h.lx.b2 hbB
  have hkB : k < B := by rw [← hB]; exact lt_heap h.own
  have hk0 : ¬ (k = 0) := by have := h.bk; omega
  have hk0' : ¬ (0 = k) := by have := h.bk; omega
  have HAE : Hid (∀ j, ae.held j → j < B) := by intro j e; rw [← hB]; exact h.lx.held j e
  have HKH := Lib.hid h.held
  have HB := Lib.hid hB
  have HW0 := Lib.hid (h.newRes #[.int .i64 0, .bool false, .int .u64 0, .slice none 0 0, .slice none 0 0, .slice none 0 0])
  have HR0 : Hid ((w.alloc (.cells #[.int .i64 0, .bool false, .int .u64 0, .slice none 0 0, .slice none 0 0, .slice none 0 0] 52)).heap[w.heap.size]? = some (.cells #[.int .i64 0, .bool false, .int .u64 0, .slice none 0 0, .slice none 0 0, .slice none 0 0] 52 (0, 0))) := heap_alloc_new w _
  have HK0 := Lib.hid ((Kept2.refl b k w).below (below_alloc w (.cells #[.int .i64 0, .bool false, .int .u64 0, .slice none 0 0, .slice none 0 0, .slice none 0 0] 52)))
  clear h
  go_enter Tryz.func32, Tryz.ntmps32
  go_upto_region 1 with fail
  rw [hB] at HW0 HR0
  generalize w.alloc (.cells #[.int .i64 0, .bool false, .int .u64 0, .slice none 0 0, .slice none 0 0, .slice none 0 0] 52) = wa at HW0 HR0 HK0 ⊢
  clear hB
  go_wp2_with (first | (go_at_call 46; refine (current_any HW0.out.lx HW0.out.inv.wf HW0.out.inv.multi).mono ?_; rintro e w1 ⟨rfl, hd1⟩; rw [hcur]; obtain ⟨⟨vt1, ve1, W1⟩, K1⟩ := HW0.out.num hd1 HW0.out.inv.peek peek_bad; have HW1 := Lib.hid W1; have HR1 := Lib.hid (K1.heap HR0.out (Nat.ne_of_gt hbB) (Nat.ne_of_gt hkB)); have HK1 := Lib.hid (HK0.out.trans K1); have g0 := W1.lx.env.other; have ok0 := cell_of_heap W1.own 0 rfl; have ofk := free_of_heap W1.own 0; clear hd1 W1 K1; have hrs := HR1.out; have z0 := cell_of_heap hrs 0 rfl; have z1 := cell_of_heap hrs 1 rfl; have z2 := cell_of_heap hrs 2 rfl; have z3 := cell_of_heap hrs 3 rfl; have z4 := cell_of_heap hrs 4 rfl; have z5 := cell_of_heap hrs 5 rfl; have f0 := free_of_heap hrs 0; have f1 := free_of_heap hrs 1; have f2 := free_of_heap hrs 2; have f3 := free_of_heap hrs 3; have f4 := free_of_heap hrs 4; have f5 := free_of_heap hrs 5; have HRS := Lib.hid hrs; clear hrs) | (go_at_call 47; refine (ok_any HW1.out.lx).mono ?_; rintro e w2 ⟨rfl, rfl⟩; rw [HYO.out]))
  refine bodyPost_ret (v := .agg #[.int .i64 0, .bool false, .int .u64 0, .slice none 0 0, .slice none 0 0, .slice none 0 0]) ?_ rfl ⟨_, _, _, _, _, _, rfl, ?_, vshape, x.peek, o, vt1, ve1, Wk.endRes HW1.out HKH.out hkB hbB h1B HAE.out (lt_heap HRS.out) (by simp) (fun j hj => ?_), ?_, peek_same.d, WPost.bad HYO.out⟩
  · exact results_cell_row rfl _ _ B 52 _ (0, 0) _ rfl (heap_setCell (heap_setCell (heap_setCell (heap_setCell (heap_setCell (heap_setCell HRS.out 0 _) 1 _) 2 _) 3 _) 4 _) 5 _) Tryz.underlying52 rfl (by kernel_rfl)
  · intro u hu
    simp only [List.mem_cons, List.not_mem_nil, or_false] at hu
    rcases hu with rfl | rfl | rfl | rfl | rfl | rfl <;> rfl
  · rw [heap_setCell_other _ _ hj, heap_setCell_other _ _ hj, heap_setCell_other _ _ hj, heap_setCell_other _ _ hj, heap_setCell_other _ _ hj, heap_setCell_other _ _ hj]
  · have hBB := HB.out
    iterate 6 refine Kept2.setNew ?_ (by omega) _ _
    exact HK1.out
set_option maxHeartbeats 4000000 in
set_option maxRecDepth 100000 in
theorem walk_deep (h : Wk w b ae ao k o x vd vt ve) (hyo : x.peek.ok = true) :
    Calls Tryz.prog 32 #[.pointer (some ⟨b, 0, none⟩), .int .i64 0, .pointer (some ⟨k, 0, none⟩)] w (WDone w b k ae ao x vd) := by
  obtain ⟨K, hK⟩ : ∃ K : Nat, x.current = K := ⟨_, rfl⟩
  have hcur := hK
  have HYO := Lib.hid hyo
  clear hyo hK
  obtain ⟨B, hB⟩ : ∃ B, w.heap.size = B := ⟨_, rfl⟩
  have hbB : b < B := by rw [← hB]; exact h.lx.lt
  have h1B : 1 < B := Nat.lt_trans h.lx.b2 hbB
  have hkB : k < B := by rw [← hB]; exact lt_heap h.own
  have hk0 : ¬ (k = 0) := by have := h.bk; omega
  have hk0' : ¬ (0 = k) := by have := h.bk; omega
  have HAE : Hid (∀ j, ae.held j → j < B) := by intro j e; rw [← hB]; exact h.lx.held j e
  have HKH := Lib.hid h.held
  have HB := Lib.hid hB
  have HW0 := Lib.hid (h.newRes #[.int .i64 0, .bool false, .int .u64 0, .slice none 0 0, .slice none 0 0, .slice none 0 0])
  have HR0 : Hid ((w.alloc (.cells #[.int .i64 0, .bool false, .int .u64 0, .slice none 0 0, .slice none 0 0, .slice none 0 0] 52)).heap[w.heap.size]? = some (.cells #[.int .i64 0, .bool false, .int .u64 0, .slice none 0 0, .slice none 0 0, .slice none 0 0] 52 (0, 0))) := heap_alloc_new w _
  have HK0 := Lib.hid ((Kept2.refl b k w).below (below_alloc w (.cells #[.int .i64 0, .bool false, .int .u64 0, .slice none 0 0, .slice none 0 0, .slice none 0 0] 52)))
  clear h
  go_enter Tryz.func32, Tryz.ntmps32
  go_upto_region 1 with fail
  rw [hB] at HW0 HR0
  generalize w.alloc (.cells #[.int .i64 0, .bool false, .int .u64 0, .slice none 0 0, .slice none 0 0, .slice none 0 0] 52) = wa at HW0 HR0 HK0 ⊢
  clear hB
  go_wp2_with (first | (go_at_call 46; refine (current_any HW0.out.lx HW0.out.inv.wf HW0.out.inv.multi).mono ?_; rintro e w1 ⟨rfl, hd1⟩; rw [hcur]; obtain ⟨⟨vt1, ve1, W1⟩, K1⟩ := HW0.out.num hd1 HW0.out.inv.peek peek_bad; have HW1 := Lib.hid W1; have HR1 := Lib.hid (K1.heap HR0.out (Nat.ne_of_gt hbB) (Nat.ne_of_gt hkB)); have HK1 := Lib.hid (HK0.out.trans K1); have g0 := W1.lx.env.other; have ok0 := cell_of_heap W1.own 0 rfl; have ofk := free_of_heap W1.own 0; clear hd1 W1 K1) | (go_at_call 47; refine (ok_any HW1.out.lx).mono ?_; rintro e w2 ⟨rfl, rfl⟩; rw [HYO.out]) | (go_at_call 48; refine (addError_any (HW1.out.spoil 50).1).mono ?_; rintro e w3 ⟨rfl, hd3⟩; obtain ⟨⟨vt3, ve3, W3⟩, K3⟩ := HW1.out.spoilt hd3; have HW3 := Lib.hid W3; have hrs := K3.heap HR1.out (Nat.ne_of_gt hbB) (Nat.ne_of_gt hkB); have HK3 := Lib.hid (HK1.out.trans K3); clear hd3 W3 K3; have z0 := cell_of_heap hrs 0 rfl; have z1 := cell_of_heap hrs 1 rfl; have z2 := cell_of_heap hrs 2 rfl; have z3 := cell_of_heap hrs 3 rfl; have z4 := cell_of_heap hrs 4 rfl; have z5 := cell_of_heap hrs 5 rfl; have f0 := free_of_heap hrs 0; have f1 := free_of_heap hrs 1; have f2 := free_of_heap hrs 2; have f3 := free_of_heap hrs 3; have f4 := free_of_heap hrs 4; have f5 := free_of_heap hrs 5; have HRS := Lib.hid hrs; clear hrs))
  refine bodyPost_ret (v := .agg #[.int .i64 0, .bool false, .int .u64 0, .slice none 0 0, .slice none 0 0, .slice none 0 0]) ?_ rfl ⟨_, _, _, _, _, _, rfl, ?_, vshape, x.peek.added, 50, vt3, ve3, Wk.endRes HW3.out HKH.out hkB hbB h1B HAE.out (lt_heap HRS.out) (by simp) (fun j hj => ?_), ?_, added_d.trans peek_same.d, WPost.bad added_bad⟩
  · exact results_cell_row rfl _ _ B 52 _ (0, 0) _ rfl (heap_setCell (heap_setCell (heap_setCell (heap_setCell (heap_setCell (heap_setCell HRS.out 0 _) 1 _) 2 _) 3 _) 4 _) 5 _) Tryz.underlying52 rfl (by kernel_rfl)
  · intro u hu
    simp only [List.mem_cons, List.not_mem_nil, or_false] at hu
    rcases hu with rfl | rfl | rfl | rfl | rfl | rfl <;> rfl
  · rw [heap_setCell_other _ _ hj, heap_setCell_other _ _ hj, heap_setCell_other _ _ hj, heap_setCell_other _ _ hj, heap_setCell_other _ _ hj, heap_setCell_other _ _ hj]
  · have hBB := HB.out
    iterate 6 refine Kept2.setNew ?_ (by omega) _ _
    exact HK3.out
set_option maxHeartbeats 4000000 in
set_option maxRecDepth 100000 in
theorem walk_null (h : Wk w b ae ao k o x vd vt ve) (hyo : x.peek.ok = true) (ht : TokAt x.d x.peek) (hkd : x.peek.kind = 5) :
    Calls Tryz.prog 32 #[.pointer (some ⟨b, 0, none⟩), .int .i64 (n + 1 : Nat), .pointer (some ⟨k, 0, none⟩)] w (WDone w b k ae ao x vd) := by
  have hcur : x.current = 5 := by unfold Lx.current Lx.currentR; rw [hyo, if_pos rfl]; exact hkd
  have HYO := Lib.hid hyo
  have HKD := Lib.hid hkd
  have HT := Lib.hid ht
  have hnp : ¬ ((n + 1 : Nat) : Int) ≤ 0 := by omega
  have hnp2 : ¬ ((n : Nat) : Int) + 1 ≤ 0 := by omega
  clear hyo hkd ht
  obtain ⟨B, hB⟩ : ∃ B, w.heap.size = B := ⟨_, rfl⟩
  have hbB : b < B := by rw [← hB]; exact h.lx.lt
  have h1B : 1 < B := Nat.lt_trans h.lx.b2 hbB
  have hkB : k < B := by rw [← hB]; exact lt_heap h.own
  have hk0 : ¬ (k = 0) := by have := h.bk; omega
  have hk0' : ¬ (0 = k) := by have := h.bk; omega
  have HAE : Hid (∀ j, ae.held j → j < B) := by intro j e; rw [← hB]; exact h.lx.held j e
  have HKH := Lib.hid h.held
  have HB := Lib.hid hB
  have HW0 := Lib.hid (h.newRes #[.int .i64 0, .bool false, .int .u64 0, .slice none 0 0, .slice none 0 0, .slice none 0 0])
  have HR0 : Hid ((w.alloc (.cells #[.int .i64 0, .bool false, .int .u64 0, .slice none 0 0, .slice none 0 0, .slice none 0 0] 52)).heap[w.heap.size]? = some (.cells #[.int .i64 0, .bool false, .int .u64 0, .slice none 0 0, .slice none 0 0, .slice none 0 0] 52 (0, 0))) := heap_alloc_new w _
  have HK0 := Lib.hid ((Kept2.refl b k w).below (below_alloc w (.cells #[.int .i64 0, .bool false, .int .u64 0, .slice none 0 0, .slice none 0 0, .slice none 0 0] 52)))
  clear h
  go_enter Tryz.func32, Tryz.ntmps32
  go_upto_region 1 with fail
  rw [hB] at HW0 HR0
  generalize w.alloc (.cells #[.int .i64 0, .bool false, .int .u64 0, .slice none 0 0, .slice none 0 0, .slice none 0 0] 52) = wa at HW0 HR0 HK0 ⊢
  clear hB
  go_wp2_with (first | (go_at_call 46; refine (current_any HW0.out.lx HW0.out.inv.wf HW0.out.inv.multi).mono ?_; rintro e w1 ⟨rfl, hd1⟩; rw [hcur]; obtain ⟨⟨vt1, ve1, W1⟩, K1⟩ := HW0.out.num hd1 HW0.out.inv.peek peek_bad; have HW1 := Lib.hid W1; have HR1 := Lib.hid (K1.heap HR0.out (Nat.ne_of_gt hbB) (Nat.ne_of_gt hkB)); have HK1 := Lib.hid (HK0.out.trans K1); have g0 := W1.lx.env.other; have ok0 := cell_of_heap W1.own 0 rfl; have ofk := free_of_heap W1.own 0; clear hd1 W1 K1) | (go_at_call 47; refine (ok_any HW1.out.lx).mono ?_; rintro e w2 ⟨rfl, rfl⟩; rw [HYO.out]) | (go_at_call 49; refine (null_any HW1.out.lx HW1.out.inv.wf HW1.out.inv.multi).mono ?_; rintro e w3 ⟨rfl, hd3⟩; rw [null_taken HYO.out HT.out.peek HKD.out] at hd3; obtain ⟨⟨vt3, ve3, W3⟩, K3⟩ := HW1.out.num hd3 HW1.out.inv.consume (fun a => a); have HW3 := Lib.hid W3; have hrs := K3.heap HR1.out (Nat.ne_of_gt hbB) (Nat.ne_of_gt hkB); have HK3 := Lib.hid (HK1.out.trans K3); clear hd3 W3 K3; have z0 := cell_of_heap hrs 0 rfl; have z1 := cell_of_heap hrs 1 rfl; have z2 := cell_of_heap hrs 2 rfl; have z3 := cell_of_heap hrs 3 rfl; have z4 := cell_of_heap hrs 4 rfl; have z5 := cell_of_heap hrs 5 rfl; have f0 := free_of_heap hrs 0; have f1 := free_of_heap hrs 1; have f2 := free_of_heap hrs 2; have f3 := free_of_heap hrs 3; have f4 := free_of_heap hrs 4; have f5 := free_of_heap hrs 5; have HRS := Lib.hid hrs; clear hrs))
  refine bodyPost_ret (v := .agg #[.int .i64 0, .bool false, .int .u64 0, .slice none 0 0, .slice none 0 0, .slice none 0 0]) ?_ rfl ⟨_, _, _, _, _, _, rfl, ?_, vshape, x.peek.consume, o, vt3, ve3, Wk.endRes HW3.out HKH.out hkB hbB h1B HAE.out (lt_heap HRS.out) (by simp) (fun j hj => ?_), ?_, peek_same.d, WPost.word HYO.out HT.out (.inr HKD.out)⟩
  · exact results_cell_row rfl _ _ B 52 _ (0, 0) _ rfl (heap_setCell (heap_setCell (heap_setCell (heap_setCell (heap_setCell (heap_setCell HRS.out 0 _) 1 _) 2 _) 3 _) 4 _) 5 _) Tryz.underlying52 rfl (by kernel_rfl)
  · intro u hu
    simp only [List.mem_cons, List.not_mem_nil, or_false] at hu
    rcases hu with rfl | rfl | rfl | rfl | rfl | rfl <;> rfl
  · rw [heap_setCell_other _ _ hj, heap_setCell_other _ _ hj, heap_setCell_other _ _ hj, heap_setCell_other _ _ hj, heap_setCell_other _ _ hj, heap_setCell_other _ _ hj]
  · have hBB := HB.out
    iterate 6 refine Kept2.setNew ?_ (by omega) _ _
    exact HK3.out
set_option maxHeartbeats 4000000 in
set_option maxRecDepth 100000 in
theorem walk_bool (h : Wk w b ae ao k o x vd vt ve) (hyo : x.peek.ok = true) (ht : TokAt x.d x.peek) (hkd : x.peek.kind = 4) :
    Calls Tryz.prog 32 #[.pointer (some ⟨b, 0, none⟩), .int .i64 (n + 1 : Nat), .pointer (some ⟨k, 0, none⟩)] w (WDone w b k ae ao x vd) := by
  have hcur : x.current = 4 := by unfold Lx.current Lx.currentR; rw [hyo, if_pos rfl]; exact hkd
  have HYO := Lib.hid hyo
  have HKD := Lib.hid hkd
  have HT := Lib.hid ht
  have hnp : ¬ ((n + 1 : Nat) : Int) ≤ 0 := by omega
  have hnp2 : ¬ ((n : Nat) : Int) + 1 ≤ 0 := by omega
  clear hyo hkd ht
  obtain ⟨B, hB⟩ : ∃ B, w.heap.size = B := ⟨_, rfl⟩
  have hbB : b < B := by rw [← hB]; exact h.lx.lt
  have h1B : 1 < B := Nat.lt_trans h.lx.b2 hbB
  have hkB : k < B := by rw [← hB]; exact lt_heap h.own
  have hk0 : ¬ (k = 0) := by have := h.bk; omega
  have hk0' : ¬ (0 = k) := by have := h.bk; omega
  have HAE : Hid (∀ j, ae.held j → j < B) := by intro j e; rw [← hB]; exact h.lx.held j e
  have HKH := Lib.hid h.held
  have HB := Lib.hid hB
  have HW0 := Lib.hid (h.newRes #[.int .i64 0, .bool false, .int .u64 0, .slice none 0 0, .slice none 0 0, .slice none 0 0])
  have HR0 : Hid ((w.alloc (.cells #[.int .i64 0, .bool false, .int .u64 0, .slice none 0 0, .slice none 0 0, .slice none 0 0] 52)).heap[w.heap.size]? = some (.cells #[.int .i64 0, .bool false, .int .u64 0, .slice none 0 0, .slice none 0 0, .slice none 0 0] 52 (0, 0))) := heap_alloc_new w _
  have HK0 := Lib.hid ((Kept2.refl b k w).below (below_alloc w (.cells #[.int .i64 0, .bool false, .int .u64 0, .slice none 0 0, .slice none 0 0, .slice none 0 0] 52)))
  clear h
  go_enter Tryz.func32, Tryz.ntmps32
  go_upto_region 1 with fail
  rw [hB] at HW0 HR0
  generalize w.alloc (.cells #[.int .i64 0, .bool false, .int .u64 0, .slice none 0 0, .slice none 0 0, .slice none 0 0] 52) = wa at HW0 HR0 HK0 ⊢
  clear hB
  go_wp2_with (first | (go_at_call 46; refine (current_any HW0.out.lx HW0.out.inv.wf HW0.out.inv.multi).mono ?_; rintro e w1 ⟨rfl, hd1⟩; rw [hcur]; obtain ⟨⟨vt1, ve1, W1⟩, K1⟩ := HW0.out.num hd1 HW0.out.inv.peek peek_bad; have HW1 := Lib.hid W1; have HR1 := Lib.hid (K1.heap HR0.out (Nat.ne_of_gt hbB) (Nat.ne_of_gt hkB)); have HK1 := Lib.hid (HK0.out.trans K1); have g0 := W1.lx.env.other; have ok0 := cell_of_heap W1.own 0 rfl; have ofk := free_of_heap W1.own 0; clear hd1 W1 K1) | (go_at_call 47; refine (ok_any HW1.out.lx).mono ?_; rintro e w2 ⟨rfl, rfl⟩; rw [HYO.out]) | (go_at_call 50; refine (bool_any HW1.out.lx HW1.out.inv.wf HW1.out.inv.multi).mono ?_; rintro e w3 ⟨rfl, hd3⟩; rw [bool_taken HYO.out HT.out.peek HKD.out] at hd3; obtain ⟨⟨vt3, ve3, W3⟩, K3⟩ := HW1.out.num hd3 HW1.out.inv.consume (fun a => a); have HW3 := Lib.hid W3; have hrs := K3.heap HR1.out (Nat.ne_of_gt hbB) (Nat.ne_of_gt hkB); have HK3 := Lib.hid (HK1.out.trans K3); clear hd3 W3 K3; have z0 := cell_of_heap hrs 0 rfl; have z1 := cell_of_heap hrs 1 rfl; have z2 := cell_of_heap hrs 2 rfl; have z3 := cell_of_heap hrs 3 rfl; have z4 := cell_of_heap hrs 4 rfl; have z5 := cell_of_heap hrs 5 rfl; have f0 := free_of_heap hrs 0; have f1 := free_of_heap hrs 1; have f2 := free_of_heap hrs 2; have f3 := free_of_heap hrs 3; have f4 := free_of_heap hrs 4; have f5 := free_of_heap hrs 5; have HRS := Lib.hid hrs; clear hrs))
  refine bodyPost_ret (v := .agg #[.int .i64 1, .bool x.peek.boolV, .int .u64 0, .slice none 0 0, .slice none 0 0, .slice none 0 0]) ?_ rfl ⟨_, _, _, _, _, _, rfl, ?_, vshape, x.peek.consume, o, vt3, ve3, Wk.endRes HW3.out HKH.out hkB hbB h1B HAE.out (lt_heap HRS.out) (by simp) (fun j hj => ?_), ?_, peek_same.d, WPost.word HYO.out HT.out (.inl HKD.out)⟩
  · exact results_cell_row rfl _ _ B 52 _ (0, 0) _ rfl (heap_setCell (heap_setCell (heap_setCell (heap_setCell (heap_setCell (heap_setCell HRS.out 0 _) 1 _) 2 _) 3 _) 4 _) 5 _) Tryz.underlying52 rfl (by kernel_rfl)
  · intro u hu
    simp only [List.mem_cons, List.not_mem_nil, or_false] at hu
    rcases hu with rfl | rfl | rfl | rfl | rfl | rfl <;> rfl
  · rw [heap_setCell_other _ _ hj, heap_setCell_other _ _ hj, heap_setCell_other _ _ hj, heap_setCell_other _ _ hj, heap_setCell_other _ _ hj, heap_setCell_other _ _ hj]
  · have hBB := HB.out
    iterate 6 refine Kept2.setNew ?_ (by omega) _ _
    exact HK3.out
set_option maxHeartbeats 4000000 in
set_option maxRecDepth 100000 in
theorem walk_str (h : Wk w b ae ao k o x vd vt ve) (hyo : x.peek.ok = true) (ht : TokAt x.d x.peek) (hkd : x.peek.kind = 2) :
    Calls Tryz.prog 32 #[.pointer (some ⟨b, 0, none⟩), .int .i64 (n + 1 : Nat), .pointer (some ⟨k, 0, none⟩)] w (WDone w b k ae ao x vd) := by
  have hcur : x.current = 2 := by unfold Lx.current Lx.currentR; rw [hyo, if_pos rfl]; exact hkd
  have HYO := Lib.hid hyo
  have HKD := Lib.hid hkd
  have HT := Lib.hid ht
  have hnp : ¬ ((n + 1 : Nat) : Int) ≤ 0 := by omega
  have hnp2 : ¬ ((n : Nat) : Int) + 1 ≤ 0 := by omega
  clear hyo hkd ht
  obtain ⟨B, hB⟩ : ∃ B, w.heap.size = B := ⟨_, rfl⟩
  have hbB : b < B := by rw [← hB]; exact h.lx.lt
  have h1B : 1 < B := Nat.lt_trans h.lx.b2 hbB
  have hkB : k < B := by rw [← hB]; exact lt_heap h.own
  have hk0 : ¬ (k = 0) := by have := h.bk; omega
  have hk0' : ¬ (0 = k) := by have := h.bk; omega
  have HAE : Hid (∀ j, ae.held j → j < B) := by intro j e; rw [← hB]; exact h.lx.held j e
  have HKH := Lib.hid h.held
  have HB := Lib.hid hB
  have HW0 := Lib.hid (h.newRes #[.int .i64 0, .bool false, .int .u64 0, .slice none 0 0, .slice none 0 0, .slice none 0 0])
  have HR0 : Hid ((w.alloc (.cells #[.int .i64 0, .bool false, .int .u64 0, .slice none 0 0, .slice none 0 0, .slice none 0 0] 52)).heap[w.heap.size]? = some (.cells #[.int .i64 0, .bool false, .int .u64 0, .slice none 0 0, .slice none 0 0, .slice none 0 0] 52 (0, 0))) := heap_alloc_new w _
  have HK0 := Lib.hid ((Kept2.refl b k w).below (below_alloc w (.cells #[.int .i64 0, .bool false, .int .u64 0, .slice none 0 0, .slice none 0 0, .slice none 0 0] 52)))
  clear h
  go_enter Tryz.func32, Tryz.ntmps32
  go_upto_region 1 with fail
  rw [hB] at HW0 HR0
  generalize w.alloc (.cells #[.int .i64 0, .bool false, .int .u64 0, .slice none 0 0, .slice none 0 0, .slice none 0 0] 52) = wa at HW0 HR0 HK0 ⊢
  clear hB
  go_wp2_with (first | (go_at_call 46; refine (current_any HW0.out.lx HW0.out.inv.wf HW0.out.inv.multi).mono ?_; rintro e w1 ⟨rfl, hd1⟩; rw [hcur]; obtain ⟨⟨vt1, ve1, W1⟩, K1⟩ := HW0.out.num hd1 HW0.out.inv.peek peek_bad; have HW1 := Lib.hid W1; have HR1 := Lib.hid (K1.heap HR0.out (Nat.ne_of_gt hbB) (Nat.ne_of_gt hkB)); have HK1 := Lib.hid (HK0.out.trans K1); have g0 := W1.lx.env.other; have ok0 := cell_of_heap W1.own 0 rfl; have ofk := free_of_heap W1.own 0; clear hd1 W1 K1) | (go_at_call 47; refine (ok_any HW1.out.lx).mono ?_; rintro e w2 ⟨rfl, rfl⟩; rw [HYO.out]) | (go_at_call 53; refine (string_any HW1.out.lx HW1.out.inv.wf HW1.out.inv.multi HW1.out.inv.tf HW1.out.inv.len).mono ?_; intro e w3 hsd; obtain ⟨rfl, hnd⟩ := hsd; obtain ⟨sv, hsv⟩ : ∃ sv, sv = strOfNums x.peek.strV := ⟨_, rfl⟩; rw [← hsv]; clear hsv; obtain ⟨cp, w4, hcv, hfr⟩ := conv_str sv w3; obtain ⟨⟨vt3, ve3, W3⟩, K3⟩ := HW1.out.num hnd (str_inv HW1.out.inv) str_bad; have hbl := below_of_grown hfr; have HW3 := Lib.hid (W3.below hbl); have hrs := (hbl.block _ (lt_heap (K3.heap HR1.out (Nat.ne_of_gt hbB) (Nat.ne_of_gt hkB)))).trans (K3.heap HR1.out (Nat.ne_of_gt hbB) (Nat.ne_of_gt hkB)); have HK3 := Lib.hid ((HK1.out.trans K3).below hbl); clear hnd W3 K3 hfr hbl; have z0 := cell_of_heap hrs 0 rfl; have z1 := cell_of_heap hrs 1 rfl; have z2 := cell_of_heap hrs 2 rfl; have z3 := cell_of_heap hrs 3 rfl; have z4 := cell_of_heap hrs 4 rfl; have z5 := cell_of_heap hrs 5 rfl; have f0 := free_of_heap hrs 0; have f1 := free_of_heap hrs 1; have f2 := free_of_heap hrs 2; have f3 := free_of_heap hrs 3; have f4 := free_of_heap hrs 4; have f5 := free_of_heap hrs 5; have HRS := Lib.hid hrs; clear hrs))
  refine bodyPost_ret (v := .agg #[.int .i64 3, .bool false, .int .u64 0, .slice (some ⟨w3.heap.size, 0, none⟩) sv.size cp, .slice none 0 0, .slice none 0 0]) ?_ rfl ⟨_, _, _, _, _, _, rfl, ?_, vshape, x.peek.str, o, vt3, ve3, Wk.endRes HW3.out HKH.out hkB hbB h1B HAE.out (lt_heap HRS.out) (by simp) (fun j hj => ?_), ?_, str_d.trans peek_same.d, WPost.str HYO.out HT.out⟩
  · exact results_cell_row rfl _ _ B 52 _ (0, 0) _ rfl (heap_setCell (heap_setCell (heap_setCell (heap_setCell (heap_setCell (heap_setCell HRS.out 0 _) 1 _) 2 _) 3 _) 4 _) 5 _) Tryz.underlying52 rfl (by kernel_rfl)
  · intro u hu
    simp only [List.mem_cons, List.not_mem_nil, or_false] at hu
    rcases hu with rfl | rfl | rfl | rfl | rfl | rfl <;> rfl
  · rw [heap_setCell_other _ _ hj, heap_setCell_other _ _ hj, heap_setCell_other _ _ hj, heap_setCell_other _ _ hj, heap_setCell_other _ _ hj, heap_setCell_other _ _ hj]
  · have hBB := HB.out
    iterate 6 refine Kept2.setNew ?_ (by omega) _ _
    exact HK3.out
set_option maxHeartbeats 4000000 in
set_option maxRecDepth 100000 in
theorem walk_arr (h : Wk w b ae ao k o x vd vt ve) (hyo : x.peek.ok = true) (ht : TokAt x.d x.peek) (hkd : x.peek.kind = 1) (hdl : x.peek.delim = 91 ∨ x.peek.delim = 91) (hn : n + 1 ≤ 300) (hnn : NoNum x.d) (hC : WalkC n) :
    Calls Tryz.prog 32 #[.pointer (some ⟨b, 0, none⟩), .int .i64 (n + 1 : Nat), .pointer (some ⟨k, 0, none⟩)] w (WDone w b k ae ao x vd) := by
  have HD1 : Hid (x.peek.isDelim 91 = true) := by show _ = _; unfold Lx.isDelim; rw [ht.peek, hyo]; rcases hdl with e | e <;> rw [e] <;> rfl
  have HD2 : Hid (x.peek.isDelim 123 = false) := by show _ = _; unfold Lx.isDelim; rw [ht.peek, hyo]; rcases hdl with e | e <;> rw [e] <;> rfl
  have HDL := Lib.hid hdl
  clear hdl
  have HC : Hid (WalkC n) := @hC
  have HNN : Hid (NoNum x.peek.d) := by show NoNum x.peek.d; rw [peek_same.d]; exact hnn
  have HTP : Hid (TokAt x.peek.d x.peek) := by show TokAt x.peek.d x.peek; rw [peek_same.d]; exact ht
  clear hC hnn
  have hcur : x.current = 1 := by unfold Lx.current Lx.currentR; rw [hyo, if_pos rfl]; exact hkd
  have HYO := Lib.hid hyo
  have HKD := Lib.hid hkd
  have HT := Lib.hid ht
  have hnp : ¬ ((n + 1 : Nat) : Int) ≤ 0 := by omega
  have hnp2 : ¬ ((n : Nat) : Int) + 1 ≤ 0 := by omega
  clear hyo hkd ht
  obtain ⟨B, hB⟩ : ∃ B, w.heap.size = B := ⟨_, rfl⟩
  have hbB : b < B := by rw [← hB]; exact h.lx.lt
  have h1B : 1 < B := Nat.lt_trans h.lx.b2 hbB
  have hkB : k < B := by rw [← hB]; exact lt_heap h.own
  have hk0 : ¬ (k = 0) := by have := h.bk; omega
  have hk0' : ¬ (0 = k) := by have := h.bk; omega
  have HAE : Hid (∀ j, ae.held j → j < B) := by intro j e; rw [← hB]; exact h.lx.held j e
  have HKH := Lib.hid h.held
  have HB := Lib.hid hB
  have HW0 := Lib.hid (h.newRes #[.int .i64 0, .bool false, .int .u64 0, .slice none 0 0, .slice none 0 0, .slice none 0 0])
  have HR0 : Hid ((w.alloc (.cells #[.int .i64 0, .bool false, .int .u64 0, .slice none 0 0, .slice none 0 0, .slice none 0 0] 52)).heap[w.heap.size]? = some (.cells #[.int .i64 0, .bool false, .int .u64 0, .slice none 0 0, .slice none 0 0, .slice none 0 0] 52 (0, 0))) := heap_alloc_new w _
  have HK0 := Lib.hid ((Kept2.refl b k w).below (below_alloc w (.cells #[.int .i64 0, .bool false, .int .u64 0, .slice none 0 0, .slice none 0 0, .slice none 0 0] 52)))
  clear h
  go_enter Tryz.func32, Tryz.ntmps32
  go_upto_region 1 with fail
  rw [hB] at HW0 HR0
  generalize w.alloc (.cells #[.int .i64 0, .bool false, .int .u64 0, .slice none 0 0, .slice none 0 0, .slice none 0 0] 52) = wa at HW0 HR0 HK0 ⊢
  clear hB
  go_wp2_with (first | (go_at_call 46; refine (current_any HW0.out.lx HW0.out.inv.wf HW0.out.inv.multi).mono ?_; rintro e w1 ⟨rfl, hd1⟩; rw [hcur]; obtain ⟨⟨vt1, ve1, W1⟩, K1⟩ := HW0.out.num hd1 HW0.out.inv.peek peek_bad; have HW1 := Lib.hid W1; have HR1 := Lib.hid (K1.heap HR0.out (Nat.ne_of_gt hbB) (Nat.ne_of_gt hkB)); have HK1 := Lib.hid (HK0.out.trans K1); have g0 := W1.lx.env.other; have ok0 := cell_of_heap W1.own 0 rfl; have ofk := free_of_heap W1.own 0; clear hd1 W1 K1) | (go_at_call 47; refine (ok_any HW1.out.lx).mono ?_; rintro e w2 ⟨rfl, rfl⟩; rw [HYO.out]) | (go_at_call 54; first | (with_reducible refine (isDelim_any HW2.out.lx HW2.out.inv.wf HW2.out.inv.multi _).mono ?_; rintro e w3 ⟨rfl, hd3⟩; rw [HD2.out]; rw [HT.out.peek] at hd3; obtain ⟨⟨vt3, ve3, W3⟩, K3⟩ := HW2.out.num hd3 HW2.out.inv (fun a => a); have HW3 := Lib.hid W3; have HR3 := Lib.hid (K3.heap HR2.out (Nat.ne_of_gt hbB) (Nat.ne_of_gt hkB)); have HK3 := Lib.hid (HK2.out.trans K3); have g3 := W3.lx.env.other; have ok3 := cell_of_heap W3.own 0 rfl; have ofk3 := free_of_heap W3.own 0; clear hd3 W3 K3) | (refine (isDelim_any HW1.out.lx HW1.out.inv.wf HW1.out.inv.multi _).mono ?_; rintro e w2 ⟨rfl, hd2⟩; rw [HD1.out]; rw [HT.out.peek] at hd2; obtain ⟨⟨vt2, ve2, W2⟩, K2⟩ := HW1.out.num hd2 HW1.out.inv (fun a => a); have HW2 := Lib.hid W2; have HR2 := Lib.hid (K2.heap HR1.out (Nat.ne_of_gt hbB) (Nat.ne_of_gt hkB)); have HK2 := Lib.hid (HK1.out.trans K2); clear hd2 W2 K2)) | (go_at_call 55; refine (array_any n hn HC.out HW2.out HNN.out HYO.out HTP.out (HDL.out.elim id id)).mono ?_; rintro e w5 ⟨a0, a1, a2, a3, a4, a5, rfl, h1, ⟨v0, v1, v2, p3, l3, q3, p4, l4, q4, p5, l5, q5, rfl, rfl, rfl, rfl, rfl, rfl⟩, x5, o5, vt5, ve5, hw5, hk5, hd5, hp5⟩; have HW5 := Lib.hid hw5; have hrs := hk5.heap HR2.out (Nat.ne_of_gt hbB) (Nat.ne_of_gt hkB); have HK5 := Lib.hid (HK2.out.trans hk5); have HP5 := Lib.hid hp5; have HD5 := Lib.hid hd5; have HONE := Lib.hid h1; clear hw5 hk5 hp5 hd5 h1; have z0 := cell_of_heap hrs 0 rfl; have z1 := cell_of_heap hrs 1 rfl; have z2 := cell_of_heap hrs 2 rfl; have z3 := cell_of_heap hrs 3 rfl; have z4 := cell_of_heap hrs 4 rfl; have z5 := cell_of_heap hrs 5 rfl; have f0 := free_of_heap hrs 0; have f1 := free_of_heap hrs 1; have f2 := free_of_heap hrs 2; have f3 := free_of_heap hrs 3; have f4 := free_of_heap hrs 4; have f5 := free_of_heap hrs 5; have HRS := Lib.hid hrs; clear hrs))
  refine bodyPost_ret (v := .agg #[.int .i64 v0, .bool v1, .int .u64 v2, .slice p3 l3 q3, .slice p4 l4 q4, .slice p5 l5 q5]) ?_ rfl ⟨_, _, _, _, _, _, rfl, ?_, vshape, x5, o5, vt5, ve5, Wk.endRes HW5.out HKH.out hkB hbB h1B HAE.out (lt_heap HRS.out) (by simp) (fun j hj => ?_), ?_, HD5.out.trans peek_same.d, HP5.out.of_peek HT.out⟩
  · exact results_cell_row rfl _ _ B 52 _ (0, 0) _ rfl (heap_setCell (heap_setCell (heap_setCell (heap_setCell (heap_setCell (heap_setCell HRS.out 0 _) 1 _) 2 _) 3 _) 4 _) 5 _) Tryz.underlying52 rfl (by kernel_rfl)
  · exact HONE.out
  · rw [heap_setCell_other _ _ hj, heap_setCell_other _ _ hj, heap_setCell_other _ _ hj, heap_setCell_other _ _ hj, heap_setCell_other _ _ hj, heap_setCell_other _ _ hj]
  · have hBB := HB.out
    iterate 6 refine Kept2.setNew ?_ (by omega) _ _
    exact HK5.out
set_option maxHeartbeats 4000000 in
set_option maxRecDepth 100000 in
theorem walk_obj (h : Wk w b ae ao k o x vd vt ve) (hyo : x.peek.ok = true) (ht : TokAt x.d x.peek) (hkd : x.peek.kind = 1) (hdl : x.peek.delim = 123 ∨ x.peek.delim = 123) (hn : n + 1 ≤ 300) (hnn : NoNum x.d) (hC : WalkC n) :
    Calls Tryz.prog 32 #[.pointer (some ⟨b, 0, none⟩), .int .i64 (n + 1 : Nat), .pointer (some ⟨k, 0, none⟩)] w (WDone w b k ae ao x vd) := by
  have HD1 : Hid (x.peek.isDelim 91 = false) := by show _ = _; unfold Lx.isDelim; rw [ht.peek, hyo]; rcases hdl with e | e <;> rw [e] <;> rfl
  have HD2 : Hid (x.peek.isDelim 123 = true) := by show _ = _; unfold Lx.isDelim; rw [ht.peek, hyo]; rcases hdl with e | e <;> rw [e] <;> rfl
  have HDL := Lib.hid hdl
  clear hdl
  have HC : Hid (WalkC n) := @hC
  have HNN : Hid (NoNum x.peek.d) := by show NoNum x.peek.d; rw [peek_same.d]; exact hnn
  have HTP : Hid (TokAt x.peek.d x.peek) := by show TokAt x.peek.d x.peek; rw [peek_same.d]; exact ht
  clear hC hnn
  have hcur : x.current = 1 := by unfold Lx.current Lx.currentR; rw [hyo, if_pos rfl]; exact hkd
  have HYO := Lib.hid hyo
  have HKD := Lib.hid hkd
  have HT := Lib.hid ht
  have hnp : ¬ ((n + 1 : Nat) : Int) ≤ 0 := by omega
  have hnp2 : ¬ ((n : Nat) : Int) + 1 ≤ 0 := by omega
  clear hyo hkd ht
  obtain ⟨B, hB⟩ : ∃ B, w.heap.size = B := ⟨_, rfl⟩
  have hbB : b < B := by rw [← hB]; exact h.lx.lt
  have h1B : 1 < B := Nat.lt_trans h.lx.b2 hbB
  have hkB : k < B := by rw [← hB]; exact lt_heap h.own
  have hk0 : ¬ (k = 0) := by have := h.bk; omega
  have hk0' : ¬ (0 = k) := by have := h.bk; omega
  have HAE : Hid (∀ j, ae.held j → j < B) := by intro j e; rw [← hB]; exact h.lx.held j e
  have HKH := Lib.hid h.held
  have HB := Lib.hid hB
  have HW0 := Lib.hid (h.newRes #[.int .i64 0, .bool false, .int .u64 0, .slice none 0 0, .slice none 0 0, .slice none 0 0])
  have HR0 : Hid ((w.alloc (.cells #[.int .i64 0, .bool false, .int .u64 0, .slice none 0 0, .slice none 0 0, .slice none 0 0] 52)).heap[w.heap.size]? = some (.cells #[.int .i64 0, .bool false, .int .u64 0, .slice none 0 0, .slice none 0 0, .slice none 0 0] 52 (0, 0))) := heap_alloc_new w _
  have HK0 := Lib.hid ((Kept2.refl b k w).below (below_alloc w (.cells #[.int .i64 0, .bool false, .int .u64 0, .slice none 0 0, .slice none 0 0, .slice none 0 0] 52)))
  clear h
  go_enter Tryz.func32, Tryz.ntmps32
  go_upto_region 1 with fail
  rw [hB] at HW0 HR0
  generalize w.alloc (.cells #[.int .i64 0, .bool false, .int .u64 0, .slice none 0 0, .slice none 0 0, .slice none 0 0] 52) = wa at HW0 HR0 HK0 ⊢
  clear hB
  go_wp2_with (first | (go_at_call 46; refine (current_any HW0.out.lx HW0.out.inv.wf HW0.out.inv.multi).mono ?_; rintro e w1 ⟨rfl, hd1⟩; rw [hcur]; obtain ⟨⟨vt1, ve1, W1⟩, K1⟩ := HW0.out.num hd1 HW0.out.inv.peek peek_bad; have HW1 := Lib.hid W1; have HR1 := Lib.hid (K1.heap HR0.out (Nat.ne_of_gt hbB) (Nat.ne_of_gt hkB)); have HK1 := Lib.hid (HK0.out.trans K1); have g0 := W1.lx.env.other; have ok0 := cell_of_heap W1.own 0 rfl; have ofk := free_of_heap W1.own 0; clear hd1 W1 K1) | (go_at_call 47; refine (ok_any HW1.out.lx).mono ?_; rintro e w2 ⟨rfl, rfl⟩; rw [HYO.out]) | (go_at_call 54; first | (with_reducible refine (isDelim_any HW2.out.lx HW2.out.inv.wf HW2.out.inv.multi _).mono ?_; rintro e w3 ⟨rfl, hd3⟩; rw [HD2.out]; rw [HT.out.peek] at hd3; obtain ⟨⟨vt3, ve3, W3⟩, K3⟩ := HW2.out.num hd3 HW2.out.inv (fun a => a); have HW3 := Lib.hid W3; have HR3 := Lib.hid (K3.heap HR2.out (Nat.ne_of_gt hbB) (Nat.ne_of_gt hkB)); have HK3 := Lib.hid (HK2.out.trans K3); have g3 := W3.lx.env.other; have ok3 := cell_of_heap W3.own 0 rfl; have ofk3 := free_of_heap W3.own 0; clear hd3 W3 K3) | (refine (isDelim_any HW1.out.lx HW1.out.inv.wf HW1.out.inv.multi _).mono ?_; rintro e w2 ⟨rfl, hd2⟩; rw [HD1.out]; rw [HT.out.peek] at hd2; obtain ⟨⟨vt2, ve2, W2⟩, K2⟩ := HW1.out.num hd2 HW1.out.inv (fun a => a); have HW2 := Lib.hid W2; have HR2 := Lib.hid (K2.heap HR1.out (Nat.ne_of_gt hbB) (Nat.ne_of_gt hkB)); have HK2 := Lib.hid (HK1.out.trans K2); clear hd2 W2 K2)) | (go_at_call 56; refine (object_any n hn HC.out HW3.out HNN.out HYO.out HTP.out (HDL.out.elim id id)).mono ?_; rintro e w5 ⟨a0, a1, a2, a3, a4, a5, rfl, h1, ⟨v0, v1, v2, p3, l3, q3, p4, l4, q4, p5, l5, q5, rfl, rfl, rfl, rfl, rfl, rfl⟩, x5, o5, vt5, ve5, hw5, hk5, hd5, hp5⟩; have HW5 := Lib.hid hw5; have hrs := hk5.heap HR3.out (Nat.ne_of_gt hbB) (Nat.ne_of_gt hkB); have HK5 := Lib.hid (HK3.out.trans hk5); have HP5 := Lib.hid hp5; have HD5 := Lib.hid hd5; have HONE := Lib.hid h1; clear hw5 hk5 hp5 hd5 h1; have z0 := cell_of_heap hrs 0 rfl; have z1 := cell_of_heap hrs 1 rfl; have z2 := cell_of_heap hrs 2 rfl; have z3 := cell_of_heap hrs 3 rfl; have z4 := cell_of_heap hrs 4 rfl; have z5 := cell_of_heap hrs 5 rfl; have f0 := free_of_heap hrs 0; have f1 := free_of_heap hrs 1; have f2 := free_of_heap hrs 2; have f3 := free_of_heap hrs 3; have f4 := free_of_heap hrs 4; have f5 := free_of_heap hrs 5; have HRS := Lib.hid hrs; clear hrs))
  refine bodyPost_ret (v := .agg #[.int .i64 v0, .bool v1, .int .u64 v2, .slice p3 l3 q3, .slice p4 l4 q4, .slice p5 l5 q5]) ?_ rfl ⟨_, _, _, _, _, _, rfl, ?_, vshape, x5, o5, vt5, ve5, Wk.endRes HW5.out HKH.out hkB hbB h1B HAE.out (lt_heap HRS.out) (by simp) (fun j hj => ?_), ?_, HD5.out.trans peek_same.d, HP5.out.of_peek HT.out⟩
  · exact results_cell_row rfl _ _ B 52 _ (0, 0) _ rfl (heap_setCell (heap_setCell (heap_setCell (heap_setCell (heap_setCell (heap_setCell HRS.out 0 _) 1 _) 2 _) 3 _) 4 _) 5 _) Tryz.underlying52 rfl (by kernel_rfl)
  · exact HONE.out
  · rw [heap_setCell_other _ _ hj, heap_setCell_other _ _ hj, heap_setCell_other _ _ hj, heap_setCell_other _ _ hj, heap_setCell_other _ _ hj, heap_setCell_other _ _ hj]
  · have hBB := HB.out
    iterate 6 refine Kept2.setNew ?_ (by omega) _ _
    exact HK5.out
set_option maxHeartbeats 4000000 in
set_option maxRecDepth 100000 in
theorem walk_close (h : Wk w b ae ao k o x vd vt ve) (hyo : x.peek.ok = true) (ht : TokAt x.d x.peek) (hkd : x.peek.kind = 1) (hdl : x.peek.delim = 125 ∨ x.peek.delim = 93) :
    Calls Tryz.prog 32 #[.pointer (some ⟨b, 0, none⟩), .int .i64 (n + 1 : Nat), .pointer (some ⟨k, 0, none⟩)] w (WDone w b k ae ao x vd) := by
  have HD1 : Hid (x.peek.isDelim 91 = false) := by show _ = _; unfold Lx.isDelim; rw [ht.peek, hyo]; rcases hdl with e | e <;> rw [e] <;> rfl
  have HD2 : Hid (x.peek.isDelim 123 = false) := by show _ = _; unfold Lx.isDelim; rw [ht.peek, hyo]; rcases hdl with e | e <;> rw [e] <;> rfl
  have HDL := Lib.hid hdl
  clear hdl
  have hcur : x.current = 1 := by unfold Lx.current Lx.currentR; rw [hyo, if_pos rfl]; exact hkd
  have HYO := Lib.hid hyo
  have HKD := Lib.hid hkd
  have HT := Lib.hid ht
  have hnp : ¬ ((n + 1 : Nat) : Int) ≤ 0 := by omega
  have hnp2 : ¬ ((n : Nat) : Int) + 1 ≤ 0 := by omega
  clear hyo hkd ht
  obtain ⟨B, hB⟩ : ∃ B, w.heap.size = B := ⟨_, rfl⟩
  have hbB : b < B := by rw [← hB]; exact h.lx.lt
  have h1B : 1 < B := Nat.lt_trans h.lx.b2 hbB
  have hkB : k < B := by rw [← hB]; exact lt_heap h.own
  have hk0 : ¬ (k = 0) := by have := h.bk; omega
  have hk0' : ¬ (0 = k) := by have := h.bk; omega
  have HAE : Hid (∀ j, ae.held j → j < B) := by intro j e; rw [← hB]; exact h.lx.held j e
  have HKH := Lib.hid h.held
  have HB := Lib.hid hB
  have HW0 := Lib.hid (h.newRes #[.int .i64 0, .bool false, .int .u64 0, .slice none 0 0, .slice none 0 0, .slice none 0 0])
  have HR0 : Hid ((w.alloc (.cells #[.int .i64 0, .bool false, .int .u64 0, .slice none 0 0, .slice none 0 0, .slice none 0 0] 52)).heap[w.heap.size]? = some (.cells #[.int .i64 0, .bool false, .int .u64 0, .slice none 0 0, .slice none 0 0, .slice none 0 0] 52 (0, 0))) := heap_alloc_new w _
  have HK0 := Lib.hid ((Kept2.refl b k w).below (below_alloc w (.cells #[.int .i64 0, .bool false, .int .u64 0, .slice none 0 0, .slice none 0 0, .slice none 0 0] 52)))
  clear h
  go_enter Tryz.func32, Tryz.ntmps32
  go_upto_region 1 with fail
  rw [hB] at HW0 HR0
  generalize w.alloc (.cells #[.int .i64 0, .bool false, .int .u64 0, .slice none 0 0, .slice none 0 0, .slice none 0 0] 52) = wa at HW0 HR0 HK0 ⊢
  clear hB
  go_wp2_with (first | (go_at_call 46; refine (current_any HW0.out.lx HW0.out.inv.wf HW0.out.inv.multi).mono ?_; rintro e w1 ⟨rfl, hd1⟩; rw [hcur]; obtain ⟨⟨vt1, ve1, W1⟩, K1⟩ := HW0.out.num hd1 HW0.out.inv.peek peek_bad; have HW1 := Lib.hid W1; have HR1 := Lib.hid (K1.heap HR0.out (Nat.ne_of_gt hbB) (Nat.ne_of_gt hkB)); have HK1 := Lib.hid (HK0.out.trans K1); have g0 := W1.lx.env.other; have ok0 := cell_of_heap W1.own 0 rfl; have ofk := free_of_heap W1.own 0; clear hd1 W1 K1) | (go_at_call 47; first | (have e5 : x.peek.consume.ok = true := HYO.out; refine (ok_any HW5.out.lx).mono ?_; rintro e w6 ⟨rfl, rfl⟩; rw [e5]) | (refine (ok_any HW1.out.lx).mono ?_; rintro e w2 ⟨rfl, rfl⟩; rw [HYO.out])) | (go_at_call 54; first | (with_reducible refine (isDelim_any HW2.out.lx HW2.out.inv.wf HW2.out.inv.multi _).mono ?_; rintro e w3 ⟨rfl, hd3⟩; rw [HD2.out]; rw [HT.out.peek] at hd3; obtain ⟨⟨vt3, ve3, W3⟩, K3⟩ := HW2.out.num hd3 HW2.out.inv (fun a => a); have HW3 := Lib.hid W3; have HR3 := Lib.hid (K3.heap HR2.out (Nat.ne_of_gt hbB) (Nat.ne_of_gt hkB)); have HK3 := Lib.hid (HK2.out.trans K3); have g3 := W3.lx.env.other; have ok3 := cell_of_heap W3.own 0 rfl; have ofk3 := free_of_heap W3.own 0; clear hd3 W3 K3) | (refine (isDelim_any HW1.out.lx HW1.out.inv.wf HW1.out.inv.multi _).mono ?_; rintro e w2 ⟨rfl, hd2⟩; rw [HD1.out]; rw [HT.out.peek] at hd2; obtain ⟨⟨vt2, ve2, W2⟩, K2⟩ := HW1.out.num hd2 HW1.out.inv (fun a => a); have HW2 := Lib.hid W2; have HR2 := Lib.hid (K2.heap HR1.out (Nat.ne_of_gt hbB) (Nat.ne_of_gt hkB)); have HK2 := Lib.hid (HK1.out.trans K2); clear hd2 W2 K2)) | (go_at_call 57; refine (skip_any HW3.out.lx HW3.out.inv.wf).mono ?_; rintro e w5 ⟨rfl, hd5⟩; rw [HT.out.peek] at hd5; obtain ⟨⟨vt5, ve5, W5⟩, K5⟩ := HW3.out.num hd5 HW3.out.inv.consume (fun a => a); have HW5 := Lib.hid W5; have HR5 := Lib.hid (K5.heap HR3.out (Nat.ne_of_gt hbB) (Nat.ne_of_gt hkB)); have HK5 := Lib.hid (HK3.out.trans K5); have g5 := W5.lx.env.other; have ok5 := cell_of_heap W5.own 0 rfl; have ofk5 := free_of_heap W5.own 0; clear hd5 W5 K5) | (go_at_call 48; refine (addError_any (HW5.out.spoil 51).1).mono ?_; rintro e w7 ⟨rfl, hd7⟩; obtain ⟨⟨vt7, ve7, W7⟩, K7⟩ := HW5.out.spoilt hd7; have HW7 := Lib.hid W7; have hrs := K7.heap HR5.out (Nat.ne_of_gt hbB) (Nat.ne_of_gt hkB); have HK7 := Lib.hid (HK5.out.trans K7); clear hd7 W7 K7; have z0 := cell_of_heap hrs 0 rfl; have z1 := cell_of_heap hrs 1 rfl; have z2 := cell_of_heap hrs 2 rfl; have z3 := cell_of_heap hrs 3 rfl; have z4 := cell_of_heap hrs 4 rfl; have z5 := cell_of_heap hrs 5 rfl; have f0 := free_of_heap hrs 0; have f1 := free_of_heap hrs 1; have f2 := free_of_heap hrs 2; have f3 := free_of_heap hrs 3; have f4 := free_of_heap hrs 4; have f5 := free_of_heap hrs 5; have HRS := Lib.hid hrs; clear hrs))
  refine bodyPost_ret (v := .agg #[.int .i64 0, .bool false, .int .u64 0, .slice none 0 0, .slice none 0 0, .slice none 0 0]) ?_ rfl ⟨_, _, _, _, _, _, rfl, ?_, vshape, x.peek.consume.added, 51, vt7, ve7, Wk.endRes HW7.out HKH.out hkB hbB h1B HAE.out (lt_heap HRS.out) (by simp) (fun j hj => ?_), ?_, added_d.trans peek_same.d, WPost.bad added_bad⟩
  · exact results_cell_row rfl _ _ B 52 _ (0, 0) _ rfl (heap_setCell (heap_setCell (heap_setCell (heap_setCell (heap_setCell (heap_setCell HRS.out 0 _) 1 _) 2 _) 3 _) 4 _) 5 _) Tryz.underlying52 rfl (by kernel_rfl)
  · intro u hu
    simp only [List.mem_cons, List.not_mem_nil, or_false] at hu
    rcases hu with rfl | rfl | rfl | rfl | rfl | rfl <;> rfl
  · rw [heap_setCell_other _ _ hj, heap_setCell_other _ _ hj, heap_setCell_other _ _ hj, heap_setCell_other _ _ hj, heap_setCell_other _ _ hj, heap_setCell_other _ _ hj]
  · have hBB := HB.out
    iterate 6 refine Kept2.setNew ?_ (by omega) _ _
    exact HK7.out
end
theorem walk_all (n : Nat) : n ≤ 300 → WalkC n := by
  induction n with
  | zero =>
    intro _ w b k ae ao o x vd vt ve h hnn he
    rcases Bool.eq_false_or_eq_true x.peek.ok with hok | hok
    · exact walk_deep h hok
    · exact walk_bad (n := 0) h hok
  | succ n ih =>
    intro hn w b k ae ao o x vd vt ve h hnn he
    rcases Bool.eq_false_or_eq_true x.peek.ok with hok | hok
    case inr => exact walk_bad (n := n + 1) h hok
    have ht := he.peek hnn hok
    have hC : WalkC n := ih (by omega)
    rcases ht.tok with ⟨e, -⟩ | ⟨e, e2, e3, -⟩ | ⟨e | e, -⟩
    · exact walk_str h hok ht e
    · rcases e3 with e3 | e3 | e3 | e3
      · exact walk_obj h hok ht e (.inl (e2.trans e3)) hn hnn @hC
      · exact walk_arr h hok ht e (.inl (e2.trans e3)) hn hnn @hC
      · exact walk_close h hok ht e (.inl (e2.trans e3))
      · exact walk_close h hok ht e (.inr (e2.trans e3))
    · exact walk_bool h hok ht e
    · exact walk_null h hok ht e
end Go.Proofs.YtaecbclonmhbcaaGreatDoor
