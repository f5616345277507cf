/- impl.walkObject. -/
import Derived.Test.YtaecbclonmhbcaaGreatDoorR29
set_option linter.unusedVariables false
set_option linter.unusedSimpArgs false
namespace Go.Proofs.YtaecbclonmhbcaaGreatDoor
open Go.RowKit
theorem str_good {D : List Int} {y : Lx} (hy : TokAt D y) (hok : y.str.ok = true) : y.ok = true ∧ D.getD y.start 0 = 34 ∧ SB D (y.start + 1) y.str.pos ∧ y.str.kind = 0 ∧ y.str.delim = 0 ∧ y.str.d = y.d := by
  unfold Lx.str at hok ⊢
  rw [hy.peek] at hok ⊢
  unfold Lx.strS at hok ⊢
  split at hok
  · rw [fail_ok] at hok; cases hok
  rename_i hc
  rw [if_neg hc]
  simp only [Bool.or_eq_true, Bool.not_eq_true', bne_iff_ne, not_or, Bool.not_eq_false, Decidable.not_not] at hc
  cases hu : unesc (y.tok.length + 1) [] y.tok with
  | none => rw [hu] at hok; simp only at hok; rw [fail_ok] at hok; cases hok
  | some l =>
    simp only
    have hp : (y.unescS l).consume.pos = y.pos := by unfold Lx.unescS; split <;> rfl
    have hd : (y.unescS l).consume.d = y.d := by unfold Lx.unescS; split <;> rfl
    rcases hy.tok with ⟨-, -, h34, n, h1, h2, h3⟩ | ⟨e, -⟩ | ⟨e, -⟩
    · refine ⟨hc.1, h34, ?_, rfl, rfl, hd⟩
      rw [hp, h3]
      have hlt := hy.lt
      have := sb_of D n (y.start + 1) (D.length + 1) (y.tok.length + 1) 0 n [] (by omega) (by omega) h1 (by rw [Nat.sub_zero, ← h2, hu]; rfl)
      rwa [Nat.sub_zero] at this
    · omega
    · omega
theorem str_d {x : Lx} : x.str.d = x.d := by
  unfold Lx.str Lx.strS
  split
  · exact fail_d.trans peek_same.d
  · split
    · exact fail_d.trans peek_same.d
    · rename_i l _
      have : (x.peek.unescS l).consume.d = x.peek.d := by unfold Lx.unescS; split <;> rfl
      exact this.trans peek_same.d
theorem str_bad {x : Lx} (h : x.ok = false) : x.str.ok = false := by
  unfold Lx.str Lx.strS
  rw [if_pos (by simp [peek_bad h])]
  exact fail_ok
section
variable {D : List Int} {s c : Nat} {x x2 : Lx}
theorem ArrP.named (h : ArrP D s 3 x c) (hn : NoNum D) (hdx : x.peek.d = D) (hi : x.isDelim 125 = false) : Ent x.peek.str.colon := fun hok => by
  have hyo := (isDelim_no hi).1
  obtain ⟨p, sp, hf, -, -, -⟩ := h (peek_okx hyo)
  obtain ⟨g1, g2, g3, g4, g5, g6⟩ := str_good (hf.peek hn hyo).1 hok
  have := g3.lt
  refine .inr ⟨x.peek.str.pos, 58, ⟨rfl, hok, g4, g5, rfl, ?_, rfl, fun _ => rfl⟩⟩
  show x.peek.str.pos ≤ x.peek.str.d.length
  rw [g6, hdx]; exact this.2
theorem ArrP.nextO (h : ArrP D s 3 x c) (hn : NoNum D) (hdx : x.peek.d = D) (hi : x.isDelim 125 = false) (hw : WPost x.peek.str.colon x2) (hd2 : x2.d = D) : ArrP D s 3 x2.comma (c + 1) ∧ mArr D x2.comma < mArr D x := by
  have hok := (isDelim_no hi).1
  obtain ⟨p, sp, hf, hs, hc, hg⟩ := h (peek_okx hok)
  have ht := (hf.peek hn hok).1
  have hpl := hf.le
  have hM : mArr D x = D.length + 1 - p := by unfold mArr; rw [if_pos hf.ok, hf.pos]
  have hst : p ≤ x.peek.start := by
    have hw := (hf.peek hn hok).2
    unfold Way at hw
    rw [hf.d, hf.pos] at hw
    rcases hw with ⟨w1, -⟩ | ⟨-, m, w1, -, -, w2, -⟩
    · exact w1.1
    · have := w1.1; have := w2.1; omega
  have key : x2.ok = true → p < x2.pos ∧ x2.pos ≤ D.length ∧ x2.kind = 0 ∧ x2.delim = 0 ∧ ∀ q, G D 4 x2.pos q → G D (Rest sp 3) p q := fun h2 => by
    obtain ⟨w1, w2, w3, w4, w5⟩ := hw h2
    have hso : x.peek.str.ok = true := w1
    obtain ⟨g1, g2, g3, g4, g5, g6⟩ := str_good ht hso
    have hcd : x.peek.str.colon.d = D := g6.trans hdx
    have hfz : Free D x.peek.str.colon x.peek.str.pos 58 := ⟨hcd, w1, g4, g5, rfl, g3.lt.2, rfl, fun _ => rfl⟩
    rw [hcd] at w3
    obtain ⟨m, m1, m2, m3, m4⟩ := hfz.openS (by decide) hn w2 w3.head
    have l1 := w3.lt
    have l2 := g3.lt
    have l3 := m1.1
    have l4 := m4.1
    exact ⟨by omega, l1.2, w4, w5, fun q hq => hf.oNext hs hn hok g2 g3 hfz w2 w3 q hq⟩
  refine ⟨fun h2 => ?_, ?_⟩
  · obtain ⟨k1, k2, k4, k5, k6⟩ := key h2
    exact ⟨x2.pos, 44, ⟨hd2, h2, k4, k5, rfl, k2, rfl, fun _ => rfl⟩, .inr rfl, by omega, fun q hq => hg q (k6 q hq)⟩
  · rw [hM]
    unfold mArr
    split
    · rename_i h2
      obtain ⟨k1, k2, -⟩ := key h2
      show D.length + 1 - x2.pos < _
      omega
    · omega
end
theorem Gath.below {w w' : World} {B cn cl : Nat} {kd : Int} {vn vl : Value} (h : Gath w B kd vn vl cn cl) (g : Below w.heap.size w w') : Gath w' B kd vn vl cn cl := by
  obtain ⟨c0, c1, c2, c3, c4, c5, hr⟩ := h.res
  obtain ⟨xs, hx⟩ := h.names
  obtain ⟨ys, hy⟩ := h.list
  exact ⟨⟨c0, c1, c2, c3, c4, c5, (g.block _ (lt_heap hr)).trans hr⟩, (g.block _ (lt_heap h.row)).trans h.row, ⟨xs, ownsRow_heap hx fun j hj => g.block j (ownsRow_lt hx hj).2⟩, ⟨ys, ownsRow_heap hy fun j hj => g.block j (ownsRow_lt hy hj).2⟩, h.apart⟩
theorem below_of_grown {w w' : World} (h : w.grownBy w' none) : Below w.heap.size w w' := ⟨h.os, h.tape, h.output, h.size, fun j hj => h.block j hj (by simp)⟩
set_option maxHeartbeats 8000000 in
set_option maxRecDepth 100000 in
theorem object_any {w : World} {b k : Nat} {ae : Sur} {ao : Addr} {o : Int} {x : Lx} {vd vt ve : Value} (n : Nat) (hn : n + 1 ≤ 300) (hC : WalkC n) (h : Wk w b ae ao k o x vd vt ve) (hnn : NoNum x.d) (hok : x.ok = true) (ht : TokAt x.d x) (hdl : x.delim = 123) :
    Calls Tryz.prog 56 #[.pointer (some ⟨b, 0, none⟩), .int .i64 (n + 1 : Nat), .pointer (some ⟨k, 0, none⟩)] w (WDone w b k ae ao x vd) := by
  obtain ⟨D, hD⟩ : ∃ D, x.d = D := ⟨_, rfl⟩
  obtain ⟨s, hs⟩ : ∃ s, x.start = s := ⟨_, rfl⟩
  obtain ⟨B, hB⟩ : ∃ B, w.heap.size = B := ⟨_, rfl⟩
  have HS := Lib.hid (arr_start hok ht (c := 123) (g := 3) (by decide) hdl h.inv.wf (fun q hq e => .obj ht.lt e hq))
  have HEND : Hid (∀ y : Lx, ArrE x.d x.start 125 y → WPost x (y.delimP 125)) := fun y hy => arr_end (by decide) hy hok ht rfl rfl
  have hlen := h.inv.len
  rw [hD] at HS HEND hlen hnn
  rw [hs] at HS HEND
  have HD := Lib.hid hD
  have HC : Hid (WalkC n) := @hC
  have HNN := Lib.hid hnn
  have hbB : b < B := by rw [← hB]; exact h.lx.lt
  have h1B : 1 < B := Nat.lt_trans h.lx.b2 hbB
  have hkB : k < B := by rw [← hB]; exact lt_heap h.own
  have HAE : Hid (∀ j, ae.held j → j < B) := by intro j e; rw [← hB]; exact h.lx.held j e
  have HKH := Lib.hid h.held
  have HB := Lib.hid hB
  have hw1 : IntKind.i64.wrap (((n + 1 : Nat) : Int) - 1) = (n : Int) := by rw [IntWalk.i64_in _ (by omega)]; omega
  have hw2 : IntKind.i64.wrap (((n : Nat) : Int) + 1 - 1) = (n : Int) := by rw [IntWalk.i64_in _ (by omega)]; omega
  have hw3 : IntKind.i64.wrap (n : Int) = (n : Int) := IntWalk.i64_in _ (by omega)
  obtain ⟨G0, W0, K0⟩ := gath_start h 5 #[.int .i64 0, .bool false, .int .u64 0, .slice none 0 0, .slice none 0 0, .slice none 0 0] ⟨_, _, _, _, _, _, rfl⟩
  unfold ValRow at G0 W0 K0
  have HG0 := Lib.hid G0
  have HW0 := Lib.hid W0
  have HK0 := Lib.hid K0
  clear h hok ht hdl hD hs hC hnn G0 W0 K0
  go_enter Tryz.func56, Tryz.ntmps56
  go_upto_region 2 with fail
  rw [hB] at HG0 HW0
  generalize (w.alloc (.cells #[.int .i64 0, .bool false, .int .u64 0, .slice none 0 0, .slice none 0 0, .slice none 0 0] 52)).alloc (.cells #[.int .i64 5, .bool false, .int .u64 0, .slice none 0 0, .slice none 0 0, .slice none 0 0] 52) = wa at HG0 HW0 HK0 ⊢
  clear hB
  go_upto_block 0 with (go_at_call 87; refine (delim_any HW0.out.lx HW0.out.inv.wf HW0.out.inv.multi 123).mono ?_; rintro e w1 ⟨rfl, hd1⟩; have HD1 : Hid (NumIs wa b (ae.wk B (.slice none 0 0) (.slice none 0 0)) ao (x.delimP 123) vd w1) := hd1; clear hd1)
  have hd1 := HD1.out
  rw [HS.out.1] at hd1
  obtain ⟨⟨vt1, ve1, W1⟩, K1⟩ := HW0.out.num hd1 HW0.out.inv.consume (fun a => a)
  have HI : Hid (ArrI w b k ae ao vd D s 3 B 5 (mArr D x.consume) w1) := ⟨x.consume, o, vt1, ve1, .slice none 0 0, .slice none 0 0, 0, 0, rfl, W1, HG0.out.kept K1 hbB hkB, HK0.out.trans K1, HD.out, HS.out.2, Nat.zero_le _, Nat.le_refl _⟩
  clear hd1 W1 K1 HD1 HG0 HW0 HK0 HS
  go_cut [] from 11 to 35 (fun wx => ArrX w b k ae ao vd D s B 5 125 wx)
  case first =>
    go_wp2_with fail
    go_loopg [] (mArr D x.consume) (fun gk wr => ArrI w b k ae ao vd D s 3 B 5 gk wr)
    case atStart => exact HI.out
    case round =>
      obtain ⟨y, o1, vt2, ve2, vn, vl, cn, cl, hgk, hw, hg, hk, hyd, hp, hcl, hcn⟩ := hrel
      have HW := Lib.hid hw
      have HG := Lib.hid hg
      have HK := Lib.hid hk
      have HP := Lib.hid hp
      clear hw hg hk hp
      cases hi : y.isDelim 125 with
      | true =>
        go_wp2_with (go_at_call 54; refine (isDelim_any HW.out.lx HW.out.inv.wf HW.out.inv.multi 125).mono ?_; rintro e w2 ⟨rfl, hd2⟩; rw [hi]; have HD2 := Lib.hid hd2; clear hd2)
        go_meet
        obtain ⟨⟨vt3, ve3, W2⟩, K2⟩ := HW.out.num HD2.out HW.out.inv.peek peek_bad
        exact ⟨y.peek, o1, vt3, ve3, vn, vl, cn, cl, W2, HG.out.kept K2 hbB hkB, HK.out.trans K2, peek_same.d.trans hyd, HP.out.stopO HNN.out hi⟩
      | false =>
        have hyo := (isDelim_no hi).1
        have HNX := fun (x2 : Lx) (a : WPost y.peek.str.colon x2) (b : x2.d = D) => HP.out.nextO HNN.out (peek_same.d.trans hyd) hi a b
        have hclD : cl ≤ D.length := by
          obtain ⟨p, sp, hf, -, hc, -⟩ := HP.out (peek_okx hyo)
          have := hf.le
          omega
        have HENT := Lib.hid (HP.out.named HNN.out (peek_same.d.trans hyd) hi)
        have hdd : y.peek.str.colon.d = D := str_d.trans (peek_same.d.trans hyd)
        have HNN2 : Hid (NoNum y.peek.str.colon.d) := by rw [Hid, hdd]; exact HNN.out
        have HN2 := Lib.hid HNX
        have hcl2 : cl ≤ 200000 := by omega
        have hcn2 : cn ≤ 200000 := by omega
        have HCL : Hid (cl + 1 ≤ D.length + 1) := Nat.succ_le_succ hclD
        have HDD := Lib.hid hdd
        clear hclD HNX hyo hcl hdd
        go_wp2_with (go_at_call 54; refine (isDelim_any HW.out.lx HW.out.inv.wf HW.out.inv.multi 125).mono ?_; rintro e w2 ⟨rfl, hd2⟩; rw [hi]; have HD2 := Lib.hid hd2; clear hd2)
        obtain ⟨⟨vt3, ve3, W2⟩, K2⟩ := HW.out.num HD2.out HW.out.inv.peek peek_bad
        have HW2 := Lib.hid W2
        have HG2 := Lib.hid (HG.out.kept K2 hbB hkB)
        have HK2 := Lib.hid (HK.out.trans K2)
        have q4 := HG2.out.c4
        have hs2 := HG2.out.size
        clear W2 K2 HD2 HW HG HK hi
        go_region_law (first
          | (refine step_append_run rfl (.tmp 15) (.tmp 19) 42 rfl _ _ rfl rfl HR.out ?_)
          | (go_simp; go_at_call 53; refine (string_any HW2.out.drew.lx HW2.out.inv.wf HW2.out.inv.multi HW2.out.inv.tf HW2.out.inv.len).mono ?_; intro e w3 hsd; obtain ⟨rfl, hnd⟩ := hsd; obtain ⟨sv, hsv⟩ : ∃ sv, sv = strOfNums y.peek.strV := ⟨_, rfl⟩; rw [← hsv]; clear hsv; obtain ⟨cp, w4, hcv, hfr⟩ := conv_str sv w3; obtain ⟨⟨vt4, ve4, hw3⟩, hk3⟩ := HW2.out.drew.num hnd (str_inv HW2.out.inv) str_bad; have hbl := below_of_grown hfr; have hg3 := HG2.out.drew.kept hk3 hbB hkB; have y4 := hg3.c4; have lt3 : B + 1 < w3.heap.size := hg3.size; have hw4 := hw3.below hbl; have hg4 := hg3.below hbl; have x4 := hg4.c4; have lt4 : B + 1 < w4.heap.size := hg4.size; obtain ⟨v', w5, hr, z4, f4, hg5, hw5, hk5⟩ := gath_name hw4 HKH.out hg4 HAE.out hbB h1B hcn2 (a0 := .slice (some ⟨w3.heap.size, 0, none⟩) sv.size cp) rfl; obtain ⟨pv, cv, rfl⟩ := hg5.formN; have HR := Lib.hid hr; have HG5 := Lib.hid hg5; have HW5 := Lib.hid hw5; have HK5 := Lib.hid (hk5 HB.out (((HK2.out.drew).trans hk3).below hbl)); clear hr hg3 hg4 hg5 hw5 hk5 hw3 hk3 hnd hfr hbl hw4))
        all_goals
          go_wp2_with (go_at_call 93; refine (wantColon_any HW5.out.lx).mono ?_; rintro e w6 ⟨rfl, hd6⟩; obtain ⟨⟨vt6, ve6, W6⟩, K6⟩ := HW5.out.num hd6 HW5.out.inv.colon (fun a => a); have HW6 := Lib.hid W6; have hg6 := HG5.out.kept K6 hbB hkB; have y5 := hg6.c5; have hs6 := hg6.size; have HG6 := Lib.hid hg6; have HK6 := Lib.hid (HK5.out.trans K6); clear hd6 W6 K6 hg6)
          go_region_law (first
            | (refine step_append_run rfl (.tmp 25) (.tmp 31) 50 rfl _ _ rfl rfl HR7.out ?_)
            | (go_simp; go_at_call 32; refine (HC.out HW6.out.drew HNN2.out HENT.out).mono ?_; rintro e w7 ⟨a0, a1, a2, a3, a4, a5, rfl, h1, -, x7, o7, vt7, ve7, hw7, hk7, hd7, hp7⟩; have hg7 := HG6.out.drew.kept hk7 hbB hkB; have y7 := hg7.c5; have lt7 : B + 1 < w7.heap.size := hg7.size; obtain ⟨v8, w8, hr, z8, f8, hg8, hw8, hk8⟩ := gath_list hw7 HKH.out hg7 HAE.out hbB h1B hcl2 h1; obtain ⟨pv8, cv8, rfl⟩ := hg8.formL; have HR7 := Lib.hid hr; have HG8 := Lib.hid hg8; have HW8 := Lib.hid hw8; have HK8 := Lib.hid (hk8 HB.out ((HK6.out.drew).trans hk7)); have HD7 := Lib.hid hd7; have HP7 := Lib.hid hp7; clear hr hg7 hg8 hw8 hk8 hw7 hk7 hd7 hp7 h1))
          all_goals
            go_wp2_with (go_at_call 92; refine (wantComma_any HW8.out.lx).mono ?_; rintro e w9 ⟨rfl, hd9⟩; have HD9 : Hid (NumIs _ b _ ao x7.comma vd w9) := hd9; clear hd9)
            go_roundg (mArr D x7.comma)
            case measure => rw [hgk]; exact (HN2.out x7 HP7.out (HD7.out.trans HDD.out)).2
            case rel =>
              obtain ⟨⟨vt9, ve9, W9⟩, K9⟩ := HW8.out.num HD9.out HW8.out.inv.comma (fun a => a)
              exact ⟨x7.comma, o7, vt9, ve9, _, _, cn + 1, cl + 1, rfl, W9, HG8.out.kept K9 hbB hkB, HK8.out.trans K9, HD7.out.trans HDD.out, (HN2.out x7 HP7.out (HD7.out.trans HDD.out)).1, HCL.out, Nat.succ_le_succ hcn⟩
  case rest =>
    obtain ⟨y, o1, vt2, ve2, vn, vl, cn, cl, hw, hg, hk, hyd, hp⟩ := hcut
    have HW := Lib.hid hw
    have HG := Lib.hid hg
    have HK := Lib.hid hk
    have HPE := Lib.hid (HEND.out y hp)
    clear hw hg hk hp
    have hinv := delimP_inv HW.out.inv 125
    have hmul := HW.out.inv.multi
    go_wp2_with (go_at_call 87; refine (delim_any HW.out.lx HW.out.inv.wf HW.out.inv.multi 125).mono ?_; rintro e w2 ⟨rfl, hd2⟩; obtain ⟨⟨vt3, ve3, W2⟩, K2⟩ := HW.out.num hd2 (delimP_inv HW.out.inv 125) (delimP_bad 125); have HW2 := Lib.hid W2; have hg2 := HG.out.kept K2 hbB hkB; have HG2 := Lib.hid hg2; have HK2 := Lib.hid (HK.out.trans K2); obtain ⟨pn, qn, rfl⟩ := hg2.formN; obtain ⟨pl, ql, rfl⟩ := hg2.formL; have hrow := hg2.row; obtain ⟨r0, r1, r2, r3, r4, r5, hres⟩ := hg2.res; unfold ValRow at hrow; have y0 := cell_of_heap hrow 0 rfl; have y1 := cell_of_heap hrow 1 rfl; have y2 := cell_of_heap hrow 2 rfl; have y3 := cell_of_heap hrow 3 rfl; have y4 := cell_of_heap hrow 4 rfl; have y5 := cell_of_heap hrow 5 rfl; have z0 := cell_of_heap hres 0 rfl; have z1 := cell_of_heap hres 1 rfl; have z2 := cell_of_heap hres 2 rfl; have z3 := cell_of_heap hres 3 rfl; have z4 := cell_of_heap hres 4 rfl; have z5 := cell_of_heap hres 5 rfl; have f0 := free_of_heap hres 0; have f1 := free_of_heap hres 1; have f2 := free_of_heap hres 2; have f3 := free_of_heap hres 3; have f4 := free_of_heap hres 4; have f5 := free_of_heap hres 5; have HRES := Lib.hid hres; clear hd2 W2 K2 hg2 hrow hres)
    refine bodyPost_ret (v := .agg #[.int .i64 5, .bool false, .int .u64 0, .slice none 0 0, .slice pn cn qn, .slice pl cl ql]) ?_ rfl ⟨_, _, _, _, _, _, rfl, ?_, vshape, y.delimP 125, o1, vt3, ve3, gath_end HW2.out HKH.out HAE.out HG2.out hbB h1B (by simp) (fun j hj => ?_), ?_, ?_, HPE.out⟩
    · exact results_cell_row rfl _ _ B 52 _ (0, 0) _ rfl (heap_setCell (heap_setCell (heap_setCell (heap_setCell (heap_setCell (heap_setCell HRES.out 0 _) 1 _) 2 _) 3 _) 4 _) 5 _) Tryz.underlying52 rfl (by kernel_rfl)
    · intro u hu
      simp only [List.mem_cons, List.not_mem_nil, or_false] at hu
      rcases hu with rfl | rfl | rfl | rfl | rfl | rfl <;> rfl
    · rw [heap_setCell_other _ _ hj, heap_setCell_other _ _ hj, heap_setCell_other _ _ hj, heap_setCell_other _ _ hj, heap_setCell_other _ _ hj, heap_setCell_other _ _ hj]
    · have hBB := HB.out
      iterate 6 refine Kept2.setNew ?_ (by omega) _ _
      exact HK2.out
    · exact (delimP_d 125).trans (hyd.trans HD.out.symm)
end Go.Proofs.YtaecbclonmhbcaaGreatDoor
