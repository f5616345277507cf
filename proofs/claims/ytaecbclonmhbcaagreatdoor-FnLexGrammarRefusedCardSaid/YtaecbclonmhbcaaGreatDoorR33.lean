/- impl.LexWalk: where it tells no error, the text is one of the grammar. The reference's Rune. The reference's String: what it stands on. -/
import Derived.Test.YtaecbclonmhbcaaGreatDoorR32
import Derived.Test.YtaecbclonmhbcaaGreatDoorR24
import Derived.Test.YtaecbclonmhbcaaGreatDoorR25
import Derived.Deep.RegionHeld3
import Derived.Test.YtaecbclonmhbcaaGreatDoorR18
import Derived.Test.YtaecbclonmhbcaaGreatDoorR28
set_option linter.unusedVariables false
set_option linter.unusedSimpArgs false
namespace Go.Proofs.YtaecbclonmhbcaaGreatDoor
open Go.RowKit
def LexWQ (w : World) (l : List Int) (e : Ending) (w' : World) : Prop :=
  ∃ (n0 : Int) (t : Bool) (n2 : Int) (p3 : Option Addr) (l3 c3 : Nat) (p4 : Option Addr) (l4 c4 : Nat) (p5 : Option Addr) (l5 c5 : Nat) (en : Int) (pos : Nat),
    e = .returned (.tuple #[.agg #[.int .i64 n0, .bool t, .int .u64 n2, .slice p3 l3 c3, .slice p4 l4 c4, .slice p5 l5 c5], .int .i64 en, .int .i64 pos]) ∧ (en = 0 → Txt l) ∧ Below w.heap.size w w'
theorem begin_ent (l : List Int) : Ent (Lx.begin l false) := fun _ => .inr ⟨0, 0, ⟨rfl, rfl, rfl, rfl, rfl, Nat.zero_le _, rfl, fun h => absurd rfl h⟩⟩
theorem arg_under {w w' : World} {v : Value} {l : List Int} (h : BytesArg w v l) (hb : Below w.heap.size w w') : BytesArg w' v l := by
  rcases h with h | h
  · exact .inl h
  · exact .inr (h.grown (r := none) ⟨hb.os, hb.tape, hb.output, hb.size, fun j hj _ => hb.block j hj⟩ (by simp))
theorem num_zero {e : Er} (h : e.num = 0) : e.isNil = true := by
  cases e with
  | nil => rfl
  | eof => cases h
  | other => cases h
  | lex n => cases h
theorem txt_of {l : List Int} {x x' : Lx} (hn : NoNum l) (hd : x.d = l) (hw : WPost (Lx.begin l false) x) (he : Eaten x x') (h : x'.ok = true) : Txt l := by
  obtain ⟨h1, h2⟩ := he.2.2 h
  obtain ⟨h3, h4, h5, h6, h7⟩ := hw h1
  have hf : Free l (Lx.begin l false) 0 0 := ⟨rfl, rfl, rfl, rfl, rfl, Nat.zero_le _, rfl, fun h => absurd rfl h⟩
  refine ⟨_, _, hf.open0 hn h4, h5, ?_⟩
  have := h5.lt
  exact ⟨this.2, Nat.le_refl _, fun i a b => by have := h2 i a (by rw [hd]; exact b); rw [hd] at this; exact this⟩
theorem results_cell_tmp3 {fn : Func} {p u v : Tmp} {ty : TypeId} (h : fn.results = #[.cell p ty, .tmp u, .tmp v]) (tmps : Array Value) (P : Program) (w : World) :
    (results fn tmps).run P w =
      ((asAddr (tmps.getD p undef)).run P w).andThen fun a w₁ => ((loadVar ty a).run P w₁).andThen fun x w₂ => .ok (.tuple #[x, tmps.getD u undef, tmps.getD v undef]) w₂ := by
  simp only [results, h]
  simp [Sem.run_bind, Result.andThen]
theorem results_cell_row_tmp3 {P : Program} {fn : Func} {p u v : Tmp} {ty : TypeId} (h : fn.results = #[.cell p ty, .tmp u, .tmp v]) (tmps : Array Value) (w : World) (g : Nat) (t : TypeId) (cs : Array Value) (fr : Nat × Nat) (d : TypeDesc)
    (hp : tmps.getD p undef = .pointer (some ⟨g, 0, none⟩)) (hg : w.heap[g]? = some (.cells cs t fr))
    (hu : P.underlying ty = some d) (hd : (match d with | .struct _ | .array _ _ => true | _ => false) = true) (hi : (P.info? ty).map (·.size) = some cs.size) :
    (results fn tmps).run P w = .ok (.tuple #[.agg cs, tmps.getD u undef, tmps.getD v undef]) w := by
  rw [results_cell_tmp3 h, hp]
  simp [asAddr, run_loadVar_row w g t ty cs fr d hg hu hd hi]
def sets6 (w : World) (R : Nat) (a0 a1 a2 a3 a4 a5 : Value) : World := (((((w.setCell ⟨R, 0, none⟩ a0).setCell ⟨R, 1, none⟩ a1).setCell ⟨R, 2, none⟩ a2).setCell ⟨R, 3, none⟩ a3).setCell ⟨R, 4, none⟩ a4).setCell ⟨R, 5, none⟩ a5
theorem sets6_heap {w : World} {R : Nat} {r0 r1 r2 r3 r4 r5 : Value} (h : w.heap[R]? = some (.cells #[r0, r1, r2, r3, r4, r5] 52 (0, 0))) (a0 a1 a2 a3 a4 a5 : Value) : (sets6 w R a0 a1 a2 a3 a4 a5).heap[R]? = some (.cells #[a0, a1, a2, a3, a4, a5] 52 (0, 0)) := by
  unfold sets6
  exact heap_setCell (heap_setCell (heap_setCell (heap_setCell (heap_setCell (heap_setCell h 0 a0) 1 a1) 2 a2) 3 a3) 4 a4) 5 a5
theorem lw_results {w : World} {R : Nat} {r0 r1 r2 r3 r4 r5 a0 a1 a2 a3 a4 a5 : Value} (h : w.heap[R]? = some (.cells #[r0, r1, r2, r3, r4, r5] 52 (0, 0))) (tmps : Array Value) (ht : tmps.getD 4 undef = .pointer (some ⟨R, 0, none⟩)) :
    (results Tryz.f23 tmps).run Tryz.prog ((((((w.setCell ⟨R, 0, none⟩ a0).setCell ⟨R, 1, none⟩ a1).setCell ⟨R, 2, none⟩ a2).setCell ⟨R, 3, none⟩ a3).setCell ⟨R, 4, none⟩ a4).setCell ⟨R, 5, none⟩ a5).drew =
      .ok (.tuple #[.agg #[a0, a1, a2, a3, a4, a5], tmps.getD 5 undef, tmps.getD 6 undef]) ((((((w.setCell ⟨R, 0, none⟩ a0).setCell ⟨R, 1, none⟩ a1).setCell ⟨R, 2, none⟩ a2).setCell ⟨R, 3, none⟩ a3).setCell ⟨R, 4, none⟩ a4).setCell ⟨R, 5, none⟩ a5).drew := by
  have hs := sets6_heap h a0 a1 a2 a3 a4 a5
  unfold sets6 at hs
  generalize (((((w.setCell ⟨R, 0, none⟩ a0).setCell ⟨R, 1, none⟩ a1).setCell ⟨R, 2, none⟩ a2).setCell ⟨R, 3, none⟩ a3).setCell ⟨R, 4, none⟩ a4).setCell ⟨R, 5, none⟩ a5 = W at hs ⊢
  exact results_cell_row_tmp3 rfl tmps W.drew R 52 _ (0, 0) _ ht hs Tryz.underlying52 rfl (by kernel_rfl)
theorem below_set1 {R : Nat} {w w' : World} (h : Below R w w') (i : Nat) (a : Value) : Below R w (w'.setCell ⟨R, i, none⟩ a) :=
  ⟨h.os, h.tape, h.output, Nat.le_trans h.size (by simp), fun j hj => (heap_setCell_other i a (Nat.ne_of_lt hj)).trans (h.block j hj)⟩
theorem below_sets {R : Nat} {w w' : World} (h : Below R w w') (a0 a1 a2 a3 a4 a5 : Value) : Below R w ((((((w'.setCell ⟨R, 0, none⟩ a0).setCell ⟨R, 1, none⟩ a1).setCell ⟨R, 2, none⟩ a2).setCell ⟨R, 3, none⟩ a3).setCell ⟨R, 4, none⟩ a4).setCell ⟨R, 5, none⟩ a5) :=
  below_set1 (below_set1 (below_set1 (below_set1 (below_set1 (below_set1 h 0 a0) 1 a1) 2 a2) 3 a3) 4 a4) 5 a5
set_option maxHeartbeats 8000000 in
set_option maxRecDepth 100000 in
theorem lexWalk_any {w : World} {ae ao : Addr} {v : Value} {l : List Int} (hv : BytesArg w v l) (hl : l.length ≤ 100000) (hby : Bytes l) (hn : NoNum l) (he : Env w ⟨ae, fun _ => False⟩ ao) (h2 : 1 < w.heap.size)
    (ho : ∃ ca ta, w.heap[ao.block]? = some (.cells ca ta (0, 0))) (hea : ∃ ca ta, w.heap[ae.block]? = some (.cells ca ta (0, 0))) :
    Calls Tryz.prog 23 #[v, .int .i64 300] w (LexWQ w l) := by
  have HV := Lib.hid hv
  have HE := Lib.hid he
  have HO := Lib.hid ho
  have HA := Lib.hid hea
  have HBY := Lib.hid hby
  have HNN := Lib.hid hn
  clear hv he ho hea hby hn
  go_enter Tryz.func23, Tryz.ntmps23
  go_upto_region 1 with fail
  have hBW : Below w.heap.size w (w.alloc (.cells #[.int .i64 0, .bool false, .int .u64 0, .slice none 0 0, .slice none 0 0, .slice none 0 0] 52)) := below_alloc w _
  have hR := heap_alloc_new w (.cells #[.int .i64 0, .bool false, .int .u64 0, .slice none 0 0, .slice none 0 0, .slice none 0 0] 52)
  have HRA := Lib.hid hR
  obtain ⟨R, hRR⟩ : ∃ R, w.heap.size = R := ⟨_, rfl⟩
  have HVA := Lib.hid (arg_under HV.out hBW)
  have HEA := Lib.hid (env_below HE.out hBW h2)
  have HBW := Lib.hid hBW
  have hsz : (w.alloc (.cells #[.int .i64 0, .bool false, .int .u64 0, .slice none 0 0, .slice none 0 0, .slice none 0 0] 52)).heap.size = R + 1 := by rw [← hRR]; simp
  clear hBW hR
  rw [hRR] at HRA h2
  generalize w.alloc (.cells #[.int .i64 0, .bool false, .int .u64 0, .slice none 0 0, .slice none 0 0, .slice none 0 0] 52) = wa at HRA HVA HEA HBW hsz ⊢
  go_upto_region 2 with (go_at_call 25; refine (lexer_arg (ae := ⟨ae, fun _ => False⟩) HVA.out (by omega) HEA.out (fun _ a => a.elim) (by omega) false).mono ?_; rintro e w1 ⟨b, vd, rfl, hb, hg, hlx⟩; have HG := Lib.hid hg; have HLX := Lib.hid hlx; clear hg hlx)
  have hwk : Hid (Wk (w1.alloc (.cells #[.int .i64 0] 3)) b (Sur.hold ⟨ae, fun _ => False⟩ w1.heap.size) ao w1.heap.size 0 (Lx.begin l false) vd (.slice none 0 0) .nilIface) :=
    ⟨HLX.out.hold _, begin_inv hl HBY.out, heap_alloc_new w1 _, Sur.hold_self _ _, HLX.out.lt, fun h => absurd rfl h⟩
  have HB1 : Hid (Below R w (w1.alloc (.cells #[.int .i64 0] 3))) := by
    rw [hRR] at HBW
    exact (HBW.out.trans ((below_of_grown HG.out).mono (by omega))).alloc (by have := HG.out.size; omega) _
  have HR1 : Hid ((w1.alloc (.cells #[.int .i64 0] 3)).heap[R]? = some (.cells #[.int .i64 0, .bool false, .int .u64 0, .slice none 0 0, .slice none 0 0, .slice none 0 0] 52 (0, 0))) := by
    show _ = _
    rw [heap_alloc_lt (by have := HG.out.size; omega), HG.out.block R (by omega) (by simp)]
    exact HRA.out
  obtain ⟨k, hk⟩ : ∃ k, w1.heap.size = k := ⟨_, rfl⟩
  have hbk : b < k := by rw [← hk]; exact HLX.out.lt
  have HWK := hwk
  clear hwk HVA HEA HRA HBW HLX HG
  go_upto_region 3 with fail
  rw [hk] at HWK
  generalize w1.alloc (.cells #[.int .i64 0] 3) = w2 at HWK HB1 HR1 ⊢
  clear hk
  go_upto_region 5 with (first
    | (go_at_call 32; refine (walk_all 300 (by decide) HWK.out HNN.out (begin_ent l)).mono ?_; rintro e w3 ⟨a0, a1, a2, a3, a4, a5, rfl, -, ⟨v0, v1, v2, p3, l3, q3, p4, l4, q4, p5, l5, q5, rfl, rfl, rfl, rfl, rfl, rfl⟩, x3, o3, vt3, ve3, hw3, hk3, hd3, hp3⟩; have HW3 := Lib.hid hw3; have HK3 := Lib.hid hk3; have HD3 := Lib.hid hd3; have HP3 := Lib.hid hp3; clear hw3 hk3 hd3 hp3)
    | (go_at_call 33; refine (consumed1_any (HW3.out.lx.alloc _) HW3.out.inv.wf HW3.out.inv.len).mono ?_; rintro e w4 ⟨rfl, x4, ⟨vt4, ve4, hl4, hk4⟩, heat⟩; have HL4 := Lib.hid hl4; have HK4 := Lib.hid hk4; have HEAT := Lib.hid heat; clear hl4 hk4 heat))
  obtain ⟨m, hm⟩ : ∃ m, w3.heap.size = m := ⟨_, rfl⟩
  have hkm : k < m := by rw [← hm]; exact lt_heap HW3.out.own
  have hRk := HK4.out.heap ((heap_alloc_lt (lt_heap HW3.out.own)).trans HW3.out.own) (Nat.ne_of_gt hbk)
  have hRm := HK4.out.heap (heap_alloc_new w3 _) (by rw [hm]; omega)
  have hRr := HK4.out.heap ((heap_alloc_lt (by rw [hm]; omega)).trans (HK3.out.heap HR1.out (by omega) (by omega))) (show R ≠ b by omega)
  rw [hm] at hRm
  have HB4 : Hid (Below R w w4) := by
    have hx := HB1.out.size
    exact (HB1.out.trans ⟨HK3.out.os, HK3.out.tape, HK3.out.output, HK3.out.size, fun j hj => HK3.out.block j (by have := lt_heap HR1.out; omega) (by omega) (by omega)⟩).trans ⟨HK4.out.os, HK4.out.tape, HK4.out.output, Nat.le_trans (by simp) HK4.out.size, fun j hj => (HK4.out.block j (by have := lt_heap HR1.out; have := HK3.out.size; simp; omega) (by omega)).trans (heap_alloc_lt (by have := lt_heap HR1.out; have := HK3.out.size; omega))⟩
  have HBAD := Lib.hid HW3.out.bad
  have hRb : R < b := by omega
  have n1 : ¬ (R = m) := by omega
  have n2 : ¬ (R = k) := by omega
  have n3 : ¬ (R = b) := by omega
  have n4 : ¬ (m = R) := by omega
  have n5 : ¬ (k = R) := by omega
  have n6 : ¬ (b = R) := by omega
  have y0 := cell_of_heap hRm 0 rfl
  have y1 := cell_of_heap hRm 1 rfl
  have y2 := cell_of_heap hRm 2 rfl
  have y3 := cell_of_heap hRm 3 rfl
  have y4 := cell_of_heap hRm 4 rfl
  have y5 := cell_of_heap hRm 5 rfl
  have yk := cell_of_heap hRk 0 rfl
  have z0 := cell_of_heap hRr 0 rfl
  have z1 := cell_of_heap hRr 1 rfl
  have z2 := cell_of_heap hRr 2 rfl
  have z3 := cell_of_heap hRr 3 rfl
  have z4 := cell_of_heap hRr 4 rfl
  have z5 := cell_of_heap hRr 5 rfl
  have f0 := free_of_heap hRr 0
  have f1 := free_of_heap hRr 1
  have f2 := free_of_heap hRr 2
  have f3 := free_of_heap hRr 3
  have f4 := free_of_heap hRr 4
  have f5 := free_of_heap hRr 5
  have HRR := Lib.hid hRr
  have HTX : Hid (x4.ok = true → Txt l) := fun h => txt_of HNN.out HD3.out HP3.out HEAT.out h
  clear hRk hRm hRr HW3 HK3 HP3 HD3 HK4 HWK HB1 HR1 HEAT
  by_cases ho : o3 = 0
  case neg =>
    have o1 : (o3 != 0) = true := bne_iff_ne.2 ho
    have o2 : (o3 == 0) = false := beq_eq_false_iff_ne.2 ho
    go_wp2_with fail
    go_region_held3 (fun w' => w'.cell? ⟨m, 0, none⟩ = some (.int .i64 v0) ∧ w'.cell? ⟨m, 1, none⟩ = some (.bool v1) ∧ w'.cell? ⟨m, 2, none⟩ = some (.int .u64 v2) ∧ w'.cell? ⟨m, 3, none⟩ = some (.slice p3 l3 q3) ∧ w'.cell? ⟨m, 4, none⟩ = some (.slice p4 l4 q4) ∧ w'.cell? ⟨m, 5, none⟩ = some (.slice p5 l5 q5) ∧ w'.cell? ⟨k, 0, none⟩ = some (.int .i64 o3)) (go_keep) (first | (go_at_call 34; refine (getPos_any HL4.out.drew1).mono ?_; rintro e w5 ⟨rfl, rfl⟩))
    all_goals
      go_wp2_with fail
      refine bodyPost_ret (lw_results HRR.out _ rfl) rfl ?_
      exact ⟨_, _, _, _, _, _, _, _, _, _, _, _, _, _, rfl, fun h => absurd h ho, ((below_sets HB4.out _ _ _ _ _ _).drew).mono (Nat.le_of_eq hRR)⟩
  case pos =>
    subst ho
    have HEB : Hid (ErrB b (Sur.hold ⟨ae, fun _ => False⟩ k).addr ao w4.drew) := by
      obtain ⟨ca, ta, h1⟩ := HO.out
      obtain ⟨cb, tb, h3⟩ := HA.out
      have l1 := lt_heap h1
      have l3 := lt_heap h3
      exact ⟨ca, cb, ta, tb, (HB4.out.block _ (by omega)).trans h1, (HB4.out.block _ (by show ae.block < R; omega)).trans h3, by omega, by show ae.block ≠ b; omega⟩
    have HKA : Hid (∀ W, W = w4.drew → Calls Tryz.prog 35 #[ve4] W fun e' w' => e' = .returned (.int .i64 x4.err.num) ∧ W = w') := by
      rintro W rfl
      exact kind_all HL4.out.drew1.err HL4.out.drew1.env HEB.out
    go_wp2_with fail
    go_region_held3 (fun w' => w'.cell? ⟨m, 0, none⟩ = some (.int .i64 v0) ∧ w'.cell? ⟨m, 1, none⟩ = some (.bool v1) ∧ w'.cell? ⟨m, 2, none⟩ = some (.int .u64 v2) ∧ w'.cell? ⟨m, 3, none⟩ = some (.slice p3 l3 q3) ∧ w'.cell? ⟨m, 4, none⟩ = some (.slice p4 l4 q4) ∧ w'.cell? ⟨m, 5, none⟩ = some (.slice p5 l5 q5)) (go_keep) (first
      | (go_at_call 34; refine (getPos_any HL4.out.drew1).mono ?_; rintro e w5 ⟨rfl, rfl⟩)
      | (go_at_call 28; refine (error_any HL4.out.drew1).mono ?_; rintro e w5 ⟨rfl, rfl⟩)
      | (go_at_call 35; refine (HKA.out _ rfl).mono ?_; rintro e w5 ⟨rfl, rfl⟩))
    all_goals
      go_wp2_with fail
      refine bodyPost_ret (lw_results HRR.out _ rfl) rfl ?_
      exact ⟨_, _, _, _, _, _, _, _, _, _, _, _, _, _, rfl, fun h => HTX.out (num_zero h), ((below_sets HB4.out _ _ _ _ _ _).drew).mono (Nat.le_of_eq hRR)⟩
end Go.Proofs.YtaecbclonmhbcaaGreatDoor

namespace Go.Proofs.YtaecbclonmhbcaaGreatDoor
open Go.RowKit
def RuneQ (w : World) (e : Ending) (w' : World) : Prop := ∃ (v : Value) (ls : List Int), e = .returned v ∧ BytesAt w' (fun _ => False) v ls ∧ ls.length ≤ 4 ∧ Below w.heap.size w w'
theorem new_bytes (w : World) (row : List Int) : BytesAt (w.alloc (.cells (row.map (Value.int .u8)).toArray 5)) (fun _ => False) (.slice (some ⟨w.heap.size, 0, none⟩) row.length row.length) row := by
  refine .inr ⟨w.heap.size, 0, row.length, rfl, Nat.le_refl _, ⟨id, by simp⟩, fun i hi => ?_⟩
  rw [Nat.zero_add]
  refine cell_of_heap (heap_alloc_new w _) i ?_
  simp [List.getD, hi]
set_option maxHeartbeats 4000000 in
set_option maxRecDepth 100000 in
theorem rune_any (n : Int) (h0 : 0 ≤ n) (h1 : n ≤ 1114111) (w : World) : Calls Tryz.prog 129 #[.int .i64 n] w (RuneQ w) := by
  have fin : ∀ row : List Int, row.length ≤ 4 → RuneQ w (.returned (.slice (some ⟨w.heap.size, 0, none⟩) row.length row.length)) (w.alloc (.cells (row.map (Value.int .u8)).toArray 5)) := fun row b =>
    ⟨_, row, rfl, new_bytes w row, b, (Below.refl w.heap.size w).alloc (Nat.le_refl _) _⟩
  have HF := Lib.hid fin
  have g0 : ¬ n < 0 := by omega
  have g1 : ¬ (1114111 : Int) < n := by omega
  clear fin
  by_cases hs : 55296 ≤ n ∧ n < 57344
  · have g2 : (55296 : Int) ≤ n := hs.1
    have g3 : n < 57344 := hs.2
    go_enter Tryz.func129, Tryz.ntmps129
    go_wp2
    go_ret
    exact HF.out [_, _, _] (by simp)
  · by_cases c1 : n < 128
    · have g2 : ¬ (55296 : Int) ≤ n := by omega
      go_enter Tryz.func129, Tryz.ntmps129
      go_wp2
      go_ret
      exact HF.out [_] (by simp)
    by_cases c2 : n < 2048
    · have g2 : ¬ (55296 : Int) ≤ n := by omega
      go_enter Tryz.func129, Tryz.ntmps129
      go_wp2
      go_ret
      exact HF.out [_, _] (by simp)
    by_cases c3 : n < 55296
    · have g2 : ¬ (55296 : Int) ≤ n := by omega
      have g3 : n < 65536 := by omega
      go_enter Tryz.func129, Tryz.ntmps129
      go_wp2
      go_ret
      exact HF.out [_, _, _] (by simp)
    have g2 : (55296 : Int) ≤ n := by omega
    have g3 : ¬ n < 57344 := by omega
    by_cases c4 : n < 65536
    · go_enter Tryz.func129, Tryz.ntmps129
      go_wp2
      go_ret
      exact HF.out [_, _, _] (by simp)
    · go_enter Tryz.func129, Tryz.ntmps129
      go_wp2
      go_ret
      exact HF.out [_, _, _, _] (by simp)
end Go.Proofs.YtaecbclonmhbcaaGreatDoor

namespace Go.Proofs.YtaecbclonmhbcaaGreatDoor
open Go.RowKit
structure TxtAt (w : World) (B : Nat) (S : Value) (n q : Nat) (ok al esc : Bool) : Prop where
  res : ∃ c0 c1 c2 c3 c4, w.heap[B]? = some (.cells #[c0, c1, c2, c3, c4] 119 (0, 0))
  row : w.heap[B + 1]? = some (.cells #[S, .int .i64 q, .bool ok, .bool al, .bool esc] 119 (0, 0))
  own : ∃ xs : List Int, xs.length = n ∧ w.ownsRow (B + 2) 5 1 S xs.length (byteVs xs)
section
variable {w w' : World} {B n q : Nat} {S : Value} {ok al esc : Bool}
theorem TxtAt.c0 (h : TxtAt w B S n q ok al esc) : w.cell? ⟨B + 1, 0, none⟩ = some S := cell_of_heap h.row 0 rfl
theorem TxtAt.c1 (h : TxtAt w B S n q ok al esc) : w.cell? ⟨B + 1, 1, none⟩ = some (.int .i64 q) := cell_of_heap h.row 1 rfl
theorem TxtAt.c2 (h : TxtAt w B S n q ok al esc) : w.cell? ⟨B + 1, 2, none⟩ = some (.bool ok) := cell_of_heap h.row 2 rfl
theorem TxtAt.c3 (h : TxtAt w B S n q ok al esc) : w.cell? ⟨B + 1, 3, none⟩ = some (.bool al) := cell_of_heap h.row 3 rfl
theorem TxtAt.c4 (h : TxtAt w B S n q ok al esc) : w.cell? ⟨B + 1, 4, none⟩ = some (.bool esc) := cell_of_heap h.row 4 rfl
theorem TxtAt.free (h : TxtAt w B S n q ok al esc) (i : Nat) : w.frozen? ⟨B + 1, i, none⟩ = false := free_of_heap h.row i
theorem TxtAt.size (h : TxtAt w B S n q ok al esc) : B + 1 < w.heap.size := lt_heap h.row
theorem TxtAt.form (h : TxtAt w B S n q ok al esc) : ∃ p c, S = .slice p n c := by
  obtain ⟨xs, rfl, hx⟩ := h.own
  exact ownsRow_form hx
theorem TxtAt.below (h : TxtAt w B S n q ok al esc) (k : Below w.heap.size w w') : TxtAt w' B S n q ok al esc := by
  obtain ⟨c0, c1, c2, c3, c4, hr⟩ := h.res
  obtain ⟨xs, e, hx⟩ := h.own
  exact ⟨⟨c0, c1, c2, c3, c4, (k.block _ (lt_heap hr)).trans hr⟩, (k.block _ (lt_heap h.row)).trans h.row, ⟨xs, e, ownsRow_heap hx fun j hj => k.block j (ownsRow_lt hx hj).2⟩⟩
theorem TxtAt.set (h : TxtAt w B S n q ok al esc) (i : Nat) (v : Value) {q' : Nat} {ok' al' esc' : Bool} (hs : (#[S, .int .i64 q, .bool ok, .bool al, .bool esc] : Array Value).setIfInBounds i v = #[S, .int .i64 q', .bool ok', .bool al', .bool esc']) :
    TxtAt (w.setCell ⟨B + 1, i, none⟩ v) B S n q' ok' al' esc' := by
  obtain ⟨c0, c1, c2, c3, c4, hr⟩ := h.res
  obtain ⟨xs, e, hx⟩ := h.own
  refine ⟨⟨c0, c1, c2, c3, c4, ?_⟩, ?_, ⟨xs, e, ownsRow_heap hx fun j hj => ?_⟩⟩
  · rw [heap_setCell_other _ _ (by omega)]; exact hr
  · rw [heap_setCell h.row i v, hs]
  · rw [heap_setCell_other _ _ (by have := (ownsRow_lt hx hj).1; omega)]
theorem TxtAt.setTo (h : TxtAt w B S n q ok al esc) (k : Nat) : TxtAt (w.setCell ⟨B + 1, 1, none⟩ (.int .i64 k)) B S n k ok al esc := h.set 1 _ rfl
theorem TxtAt.setOk (h : TxtAt w B S n q ok al esc) (k : Bool) : TxtAt (w.setCell ⟨B + 1, 2, none⟩ (.bool k)) B S n q k al esc := h.set 2 _ rfl
theorem TxtAt.setAl (h : TxtAt w B S n q ok al esc) (k : Bool) : TxtAt (w.setCell ⟨B + 1, 3, none⟩ (.bool k)) B S n q ok k esc := h.set 3 _ rfl
theorem TxtAt.setEsc (h : TxtAt w B S n q ok al esc) (k : Bool) : TxtAt (w.setCell ⟨B + 1, 4, none⟩ (.bool k)) B S n q ok al k := h.set 4 _ rfl
theorem TxtAt.grow (h : TxtAt w B S n q ok al esc) {W1 : World} {S' : Value} {ys : List Int} (hg : w.grownBy W1 S.ownBlock) (ho : W1.ownsRow (B + 2) 5 1 S' ys.length (byteVs ys)) {w0 : World} (hb : Below B w0 w) :
    W1.cell? ⟨B + 1, 0, none⟩ = some S ∧ W1.frozen? ⟨B + 1, 0, none⟩ = false ∧ TxtAt (W1.setCell ⟨B + 1, 0, none⟩ S') B S' ys.length q ok al esc ∧ Below B w0 (W1.setCell ⟨B + 1, 0, none⟩ S') := by
  obtain ⟨c0, c1, c2, c3, c4, hr⟩ := h.res
  obtain ⟨xs, e, hx⟩ := h.own
  have hne : ∀ j, S.ownBlock = some j → B + 2 ≤ j := fun j e => (ownsRow_lt hx e).1
  have hsz := h.size
  have hrow : W1.heap[B + 1]? = some (.cells #[S, .int .i64 q, .bool ok, .bool al, .bool esc] 119 (0, 0)) := (hg.block (B + 1) hsz (fun e => by have := hne _ e.symm; omega)).trans h.row
  refine ⟨cell_of_heap hrow 0 rfl, free_of_heap hrow 0, ⟨⟨c0, c1, c2, c3, c4, ?_⟩, ?_, ⟨ys, rfl, ownsRow_heap ho fun j hj => ?_⟩⟩, ⟨hg.os.trans hb.os, hg.tape.trans hb.tape, hg.output.trans hb.output, Nat.le_trans hb.size (Nat.le_trans hg.size (by simp)), fun j hj => ?_⟩⟩
  · rw [heap_setCell_other _ _ (by omega), hg.block B (by omega) (fun e => by have := hne _ e.symm; omega)]; exact hr
  · rw [heap_setCell hrow 0 S']; rfl
  · rw [heap_setCell_other _ _ (by have := (ownsRow_lt ho hj).1; omega)]
  · rw [heap_setCell_other _ _ (by omega), hg.block j (by omega) (fun e => by have := hne _ e.symm; omega)]
    exact hb.block j hj
theorem txt_byte (h : TxtAt w B S n q ok al esc) (c : Int) (hn : n ≤ 500000) {w0 : World} (hb : Below B w0 w) :
    ∃ S' W1, (Builtin.append_ #[22, 22] 22 #[S, .slice (some ⟨w.heap.size, 0, none⟩) 1 1]).run Tryz.prog (w.alloc (.cells #[.int .u8 c] 5)) = .ok S' W1 ∧ W1.cell? ⟨B + 1, 0, none⟩ = some S ∧ W1.frozen? ⟨B + 1, 0, none⟩ = false ∧
      TxtAt (W1.setCell ⟨B + 1, 0, none⟩ S') B S' (n + 1) q ok al esc ∧ Below B w0 (W1.setCell ⟨B + 1, 0, none⟩ S') := by
  obtain ⟨xs, e, hx⟩ := h.own
  subst e
  obtain ⟨S', W1, hr, ho, hg, -⟩ := append_byte hx c (by omega) (by have := h.size; omega)
  obtain ⟨h1, h2, h3, h4⟩ := h.grow hg ho hb
  rw [List.length_append] at h3
  exact ⟨S', W1, hr, h1, h2, h3, h4⟩
theorem txt_bytes (h : TxtAt w B S n q ok al esc) {u : Value} {ls : List Int} (hu : BytesAt w (fun _ => False) u ls) (hl : ls.length ≤ 4) (hn : n ≤ 500000) {w0 : World} (hb : Below B w0 w) :
    ∃ S' W1, (Builtin.append_ #[22, 22] 22 #[S, u]).run Tryz.prog w = .ok S' W1 ∧ W1.cell? ⟨B + 1, 0, none⟩ = some S ∧ W1.frozen? ⟨B + 1, 0, none⟩ = false ∧
      TxtAt (W1.setCell ⟨B + 1, 0, none⟩ S') B S' (n + ls.length) q ok al esc ∧ Below B w0 (W1.setCell ⟨B + 1, 0, none⟩ S') := by
  obtain ⟨xs, e, hx⟩ := h.own
  subst e
  obtain ⟨S', W1, hr, ho, hg, -⟩ := append_bytes hx hu (by omega) (by have := h.size; omega)
  obtain ⟨h1, h2, h3, h4⟩ := h.grow hg ho hb
  rw [List.length_append] at h3
  exact ⟨S', W1, hr, h1, h2, h3, h4⟩
end
def StrQ (d : List Int) (at' : Nat) (w : World) (e : Ending) (w' : World) : Prop :=
  ∃ (p : Option Addr) (l c q : Nat) (ok al esc : Bool), e = .returned (.agg #[.slice p l c, .int .i64 q, .bool ok, .bool al, .bool esc]) ∧ at' ≤ q ∧ q ≤ d.length ∧ (ok = true → at' < q) ∧
    (∀ q', at' < d.length → d.getD at' 0 = 34 → SB d (at' + 1) q' → ok = true ∧ q = q') ∧ Below w.heap.size w w'
theorem SB.quote {d : List Int} {k q : Nat} (h : SB d k q) (hc : d.getD k 0 = 34) : q = k + 1 := by
  cases h with
  | close _ _ => rfl
  | plain _ h _ _ => exact absurd hc h
  | short _ h _ _ => rw [hc] at h; exact absurd h (by decide)
  | hex _ h _ _ _ => rw [hc] at h; exact absurd h (by decide)
theorem SB.step {d : List Int} {k q : Nat} (h : SB d k q) (h1 : d.getD k 0 ≠ 34) (h2 : d.getD k 0 ≠ 92) : SB d (k + 1) q := by
  cases h with
  | close _ h => exact absurd h h1
  | plain _ _ _ h => exact h
  | short _ h _ _ => exact absurd h h2
  | hex _ h _ _ _ => exact absurd h h2
theorem SB.esc {d : List Int} {k q : Nat} (h : SB d k q) (hc : d.getD k 0 = 92) : k + 1 < d.length ∧ ((Short (d.getD (k + 1) 0) ∧ SB d (k + 2) q) ∨ (k + 5 < d.length ∧ d.getD (k + 1) 0 = 117 ∧ (∀ i, i < 4 → 0 ≤ hexV (d.getD (k + 2 + i) 0)) ∧ SB d (k + 6) q)) := by
  cases h with
  | close _ h => rw [hc] at h; exact absurd h (by decide)
  | plain _ _ h _ => exact absurd hc h
  | short h1 _ h2 h3 => exact ⟨h1, .inl ⟨h2, h3⟩⟩
  | hex h1 _ h2 h3 h4 => exact ⟨by omega, .inr ⟨h1, h2, h3, h4⟩⟩
theorem short_117 : ¬ Short 117 := by unfold Short; decide
end Go.Proofs.YtaecbclonmhbcaaGreatDoor
