/- The reference's String. -/
import Derived.Test.YtaecbclonmhbcaaGreatDoorR33
set_option linter.unusedVariables false
set_option linter.unusedSimpArgs false
namespace Go.Proofs.YtaecbclonmhbcaaGreatDoor
open Go.RowKit
def StrI (d : List Int) (at' B : Nat) (w : World) (gk : Nat) (v6 : Value) (wr : World) : Prop :=
  ∃ (k n q : Nat) (S : Value) (al esc : Bool), gk + k = d.length ∧ v6 = .int .i64 k ∧ at' < k ∧ k ≤ d.length ∧ n ≤ 4 * k ∧ TxtAt wr B S n q false al esc ∧ Below B w wr ∧ (∀ q', SB d (at' + 1) q' → SB d k q')
theorem below_set5 {R : Nat} {w w' : World} (h : Below R w w') (a0 a1 a2 a3 a4 : Value) : Below R w (((((w'.setCell ⟨R, 0, none⟩ a0).setCell ⟨R, 1, none⟩ a1).setCell ⟨R, 2, none⟩ a2).setCell ⟨R, 3, none⟩ a3).setCell ⟨R, 4, none⟩ a4) := by
  have set1 : ∀ {v : World}, Below R w v → ∀ (i : Nat) (a : Value), Below R w (v.setCell ⟨R, i, none⟩ a) := fun h i a =>
    ⟨h.os, h.tape, h.output, Nat.le_trans h.size (by simp), fun j hj => (heap_setCell_other i a (Nat.ne_of_lt hj)).trans (h.block j hj)⟩
  exact set1 (set1 (set1 (set1 (set1 h 0 a0) 1 a1) 2 a2) 3 a3) 4 a4
theorem below_setN {R j : Nat} {w w' : World} (h : Below R w w') (hj : R ≤ j) (i : Nat) (a : Value) : Below R w (w'.setCell ⟨j, i, none⟩ a) :=
  ⟨h.os, h.tape, h.output, Nat.le_trans h.size (by simp), fun m hm => (heap_setCell_other i a (by omega)).trans (h.block m hm)⟩
set_option maxHeartbeats 8000000 in
set_option maxRecDepth 100000 in
theorem string_spec {p : Option Addr} {cap at' : Nat} {d : List Int} {w : World} (hd : Bs w p d) (hby : Bytes d) (h32 : ∀ i, i < d.length → 32 ≤ d.getD i 0) (hl : d.length ≤ 100000) (ha : at' ≤ d.length) :
    Calls Tryz.prog 97 #[.slice p d.length cap, .int .i64 at'] w (StrQ d at' w) := by
  obtain ⟨B, hB⟩ : ∃ B, w.heap.size = B := ⟨_, rfl⟩
  have HD := Lib.hid hd
  have HBY := Lib.hid hby
  have H32 := Lib.hid h32
  have hbelow : Below B w ((w.alloc (.cells #[.slice none 0 0, .int .i64 0, .bool false, .bool false, .bool false] 119)).alloc (.cells #[.slice none 0 0, .int .i64 at', .bool false, .bool false, .bool false] 119)) := by
    rw [← hB]
    exact ((Below.refl _ w).alloc (Nat.le_refl _) _).alloc (by simp) _
  have htxt : TxtAt ((w.alloc (.cells #[.slice none 0 0, .int .i64 0, .bool false, .bool false, .bool false] 119)).alloc (.cells #[.slice none 0 0, .int .i64 at', .bool false, .bool false, .bool false] 119)) B (.slice none 0 0) 0 at' false false false := by
    have hs : (w.alloc (.cells #[.slice none 0 0, .int .i64 0, .bool false, .bool false, .bool false] 119)).heap.size = B + 1 := by rw [← hB]; simp
    refine ⟨⟨.slice none 0 0, .int .i64 0, .bool false, .bool false, .bool false, ?_⟩, ?_, ⟨[], rfl, World.ownsRow_nil _ _ _ _⟩⟩
    · rw [heap_alloc_lt (by omega), ← hB]; exact heap_alloc_new w _
    · rw [← hs]; exact heap_alloc_new _ _
  have HB0 := Lib.hid hbelow
  have HT0 := Lib.hid htxt
  have HBB := Lib.hid hB
  have FIN : Hid (∀ {W : World} {pS : Option Addr} {lS cS n q : Nat} {ok al esc : Bool}, TxtAt W B (.slice pS lS cS) n q ok al esc → Below B w W → at' ≤ q → q ≤ d.length → (ok = true → at' < q) → (∀ q', at' < d.length → d.getD at' 0 = 34 → SB d (at' + 1) q' → ok = true ∧ q = q') →
      StrQ d at' w (.returned (.agg #[.slice pS lS cS, .int .i64 q, .bool ok, .bool al, .bool esc])) (((((W.setCell ⟨B, 0, none⟩ (.slice pS lS cS)).setCell ⟨B, 1, none⟩ (.int .i64 q)).setCell ⟨B, 2, none⟩ (.bool ok)).setCell ⟨B, 3, none⟩ (.bool al)).setCell ⟨B, 4, none⟩ (.bool esc))) := by
    intro W pS lS cS n q ok al esc h1 h2 h3 h4 h5 h6
    exact ⟨_, _, _, _, _, _, _, rfl, h3, h4, h5, h6, (below_set5 h2 _ _ _ _ _).mono (Nat.le_of_eq hB)⟩
  clear hd hby h32 hbelow htxt
  go_enter Tryz.func97, Tryz.ntmps97
  go_upto_region 2 with fail
  generalize (w.alloc (.cells #[.slice none 0 0, .int .i64 0, .bool false, .bool false, .bool false] 119)).alloc (.cells #[.slice none 0 0, .int .i64 at', .bool false, .bool false, .bool false] 119) = wa at HB0 HT0 ⊢
  have c0 := HT0.out.c0
  have c1 := HT0.out.c1
  have c2 := HT0.out.c2
  have c3 := HT0.out.c3
  have c4 := HT0.out.c4
  obtain ⟨r0, r1, r2, r3, r4, hres⟩ := HT0.out.res
  have z0 := cell_of_heap hres 0 rfl
  have z1 := cell_of_heap hres 1 rfl
  have z2 := cell_of_heap hres 2 rfl
  have z3 := cell_of_heap hres 3 rfl
  have z4 := cell_of_heap hres 4 rfl
  have f0 := free_of_heap hres 0
  have f1 := free_of_heap hres 1
  have f2 := free_of_heap hres 2
  have f3 := free_of_heap hres 3
  have f4 := free_of_heap hres 4
  have HRS := Lib.hid hres
  clear hres
  by_cases hlt : at' < d.length
  case neg =>
    have hge : (d.length : Int) ≤ (at' : Int) := by omega
    have hgd : decide ((d.length : Int) ≤ (at' : Int)) = true := decide_eq_true hge
    have hgd2 : decide (d.length ≤ at') = true := decide_eq_true (by omega)
    go_wp2
    refine bodyPost_ret (v := .agg #[.slice none 0 0, .int .i64 (at' : Nat), .bool false, .bool false, .bool false]) (results_cell_row rfl _ _ B 119 _ (0, 0) _ rfl (heap_setCell (heap_setCell (heap_setCell (heap_setCell (heap_setCell (HT0.out).res.choose_spec.choose_spec.choose_spec.choose_spec.choose_spec 0 _) 1 _) 2 _) 3 _) 4 _) Tryz.underlying119 rfl (by kernel_rfl)) rfl (FIN.out (HT0.out) (HB0.out) (Nat.le_refl _) ha (fun h => (by cases h)) (fun q' h => absurd h hlt))
  case pos =>
    obtain ⟨bd, off, rfl, hbd, hc⟩ := HD.out (by omega)
    rw [HBB.out] at hbd
    have q0 := (HB0.out.cell (p := ⟨bd, off + at', none⟩) hbd).trans (hc at' hlt)
    obtain ⟨c, hcc⟩ : ∃ c, d.getD at' 0 = c := ⟨_, rfl⟩
    rw [hcc] at q0
    have HCC := Lib.hid hcc
    have hge : ¬ (d.length : Int) ≤ (at' : Int) := by omega
    have hgd : decide ((d.length : Int) ≤ (at' : Int)) = false := decide_eq_false hge
    have hgd2 : decide (d.length ≤ at') = false := decide_eq_false (by omega)
    have hlt' : (at' : Int) < (d.length : Int) := by omega
    have HCL := Lib.hid hc
    clear hc hcc
    by_cases h34 : c = 34
    case neg =>
      have e1 : (c == 34) = false := beq_eq_false_iff_ne.2 h34
      have e2 : (c != 34) = true := bne_iff_ne.2 h34
      go_wp2
      refine bodyPost_ret (v := .agg #[.slice none 0 0, .int .i64 (at' : Nat), .bool false, .bool false, .bool false]) (results_cell_row rfl _ _ B 119 _ (0, 0) _ rfl (heap_setCell (heap_setCell (heap_setCell (heap_setCell (heap_setCell (HT0.out).res.choose_spec.choose_spec.choose_spec.choose_spec.choose_spec 0 _) 1 _) 2 _) 3 _) 4 _) Tryz.underlying119 rfl (by kernel_rfl)) rfl (FIN.out (HT0.out) (HB0.out) (Nat.le_refl _) ha (fun h => (by cases h)) (fun q' _ h => absurd (HCC.out.symm.trans h) h34))
    case pos =>
      subst h34
      have HI : Hid (StrI d at' B w (d.length - (at' + 1)) (.int .i64 (at' + 1 : Nat)) wa) := ⟨at' + 1, 0, at', _, false, false, by omega, rfl, by omega, by omega, by omega, HT0.out, HB0.out, fun q' h => h⟩
      go_wp2
      clear c0 c1 c2 c3 c4 z0 z1 z2 z3 z4 f0 f1 f2 f3 f4 HRS q0 HT0 HB0 hge hgd hgd2
      go_loopg [6] (d.length - (at' + 1)) (fun gk v6 wr => StrI d at' B w gk v6 wr)
      case atStart => first | exact HI.out | (have := HI.out; simpa using this)
      case round =>
        obtain ⟨k, n, q, S, al, esc, hgk, rfl, hak, hk, hn, ht, hb, hsb⟩ := hrel
        obtain ⟨pS, cS, rfl⟩ := ht.form
        have HTr := Lib.hid ht
        have HBr := Lib.hid hb
        have HSB := Lib.hid hsb
        have y1 := ht.c1
        have g1 := ht.free 1
        clear ht hb hsb
        go_upto_region 6 with fail
        have HT1 := Lib.hid (HTr.out.setTo k)
        have HB1 := Lib.hid (below_setN HBr.out (show B ≤ B + 1 by omega) 1 (.int .i64 (k : Nat)))
        generalize wr.setCell ⟨B + 1, 1, none⟩ (.int .i64 (k : Nat)) = w1 at HT1 HB1 ⊢
        clear HTr HBr y1 g1
        have c0 := HT1.out.c0
        have c1 := HT1.out.c1
        have c2 := HT1.out.c2
        have c3 := HT1.out.c3
        have c4 := HT1.out.c4
        have b0 := HT1.out.free 0
        have b1 := HT1.out.free 1
        have b2 := HT1.out.free 2
        have b3 := HT1.out.free 3
        have b4 := HT1.out.free 4
        have lt1 : B + 1 < w1.heap.size := HT1.out.size
        obtain ⟨r0, r1, r2, r3, r4, hres⟩ := HT1.out.res
        have z0 := cell_of_heap hres 0 rfl
        have z1 := cell_of_heap hres 1 rfl
        have z2 := cell_of_heap hres 2 rfl
        have z3 := cell_of_heap hres 3 rfl
        have z4 := cell_of_heap hres 4 rfl
        have f0 := free_of_heap hres 0
        have f1 := free_of_heap hres 1
        have f2 := free_of_heap hres 2
        have f3 := free_of_heap hres 3
        have f4 := free_of_heap hres 4
        have HRS := Lib.hid hres
        clear hres
        by_cases hkl : k < d.length
        case neg =>
          have hge : (d.length : Int) ≤ (k : Int) := by omega
          have hgd : decide ((d.length : Int) ≤ (k : Int)) = true := decide_eq_true hge
          have hgd2 : decide (d.length ≤ k) = true := decide_eq_true (by omega)
          go_wp2
          refine bodyPost_ret (v := .agg #[.slice pS n cS, .int .i64 (k : Nat), .bool false, .bool al, .bool esc]) (results_cell_row rfl _ _ B 119 _ (0, 0) _ rfl (heap_setCell (heap_setCell (heap_setCell (heap_setCell (heap_setCell (HT1.out).res.choose_spec.choose_spec.choose_spec.choose_spec.choose_spec 0 _) 1 _) 2 _) 3 _) 4 _) Tryz.underlying119 rfl (by kernel_rfl)) rfl (FIN.out (HT1.out) (HB1.out) (by omega) hk (fun h => (by cases h)) (fun q' _ _ h => absurd (HSB.out q' h).lt (by omega)))
        case pos =>
          have q0 := (HB1.out.cell (p := ⟨bd, off + k, none⟩) hbd).trans (HCL.out k hkl)
          have ltb : bd < w1.heap.size := Nat.lt_of_lt_of_le hbd (by rw [← HBB.out]; exact HB1.out.size)
          have h32 := H32.out k hkl
          have hbk := HBY.out k
          obtain ⟨c, hcc⟩ : ∃ c, d.getD k 0 = c := ⟨_, rfl⟩
          rw [hcc] at q0 h32 hbk
          have HCC := Lib.hid hcc
          have hge : ¬ (d.length : Int) ≤ (k : Int) := by omega
          have hgd : decide ((d.length : Int) ≤ (k : Int)) = false := decide_eq_false hge
          have hgd2 : decide (d.length ≤ k) = false := decide_eq_false (by omega)
          have hkl' : (k : Int) < (d.length : Int) := by omega
          have h32' : ¬ c < 32 := by omega
          have nb1 : ¬ (bd = B + 1) := by omega
          have nb2 : ¬ (B + 1 = bd) := by omega
          clear hcc
          by_cases h34 : c = 34
          case pos =>
            subst h34
            go_wp2
            refine bodyPost_ret (v := .agg #[.slice pS n cS, .int .i64 (k + 1 : Nat), .bool true, .bool al, .bool esc]) (results_cell_row rfl _ _ B 119 _ (0, 0) _ rfl (heap_setCell (heap_setCell (heap_setCell (heap_setCell (heap_setCell ((HT1.out.setTo (k + 1)).setOk true).res.choose_spec.choose_spec.choose_spec.choose_spec.choose_spec 0 _) 1 _) 2 _) 3 _) 4 _) Tryz.underlying119 rfl (by kernel_rfl)) rfl (FIN.out ((HT1.out.setTo (k + 1)).setOk true) (below_setN (below_setN HB1.out (show B ≤ B + 1 by omega) 1 _) (show B ≤ B + 1 by omega) 2 _) (by omega) hkl (fun _ => by omega) (fun q' _ _ h => ⟨rfl, ((HSB.out q' h).quote HCC.out).symm⟩))
          case neg =>
            have e34 : (c == 34) = false := beq_eq_false_iff_ne.2 h34
            have e34' : (c != 34) = true := bne_iff_ne.2 h34
            by_cases h92 : c = 92
            case neg =>
              have e92 : (c == 92) = false := beq_eq_false_iff_ne.2 h92
              have e92' : (c != 92) = true := bne_iff_ne.2 h92
              have HTd : Hid (TxtAt w1.drew B (.slice pS n cS) n k false al esc) := HT1.out.below ⟨rfl, rfl, rfl, Nat.le_refl _, fun _ _ => rfl⟩
              have HBd : Hid (Below B w w1.drew) := HB1.out.drew
              obtain ⟨S2, W1, hr, u0, x0, ht2, hb2⟩ := txt_byte HTd.out c (by omega) HBd.out
              obtain ⟨p2, c2', rfl⟩ := ht2.form
              have HR := Lib.hid hr
              have HT2 := Lib.hid ht2
              have HB2 := Lib.hid hb2
              have HSB2 : Hid (∀ q', SB d (at' + 1) q' → SB d (k + 1) q') := fun q' h => (HSB.out q' h).step (by rw [HCC.out]; exact h34) (by rw [HCC.out]; exact h92)
              clear hr ht2 hb2
              go_wp2
              go_region_law (refine step_append_run rfl (.tmp 62) (.tmp 67) 22 rfl _ _ rfl rfl HR.out ?_)
              all_goals
                go_wp2
                go_roundg (gk - 1)
                case measure => omega
                case rel => exact ⟨k + 1, n + 1, k, _, al, esc, by omega, by go_num, by omega, by omega, by omega, HT2.out, HB2.out, HSB2.out⟩
            case pos =>
              subst h92
              go_upto_region 16 with fail
              have HT2 := Lib.hid (HT1.out.setEsc true)
              have HB2 := Lib.hid (below_setN HB1.out (show B ≤ B + 1 by omega) 4 (.bool true))
              clear c0 c1 c2 c3 c4 b0 b1 b2 b3 b4 lt1 z0 z1 z2 z3 z4 f0 f1 f2 f3 f4 HRS q0 ltb
              generalize w1.setCell ⟨B + 1, 4, none⟩ (.bool true) = w2 at HT2 HB2 ⊢
              clear HT1 HB1
              have c0 := HT2.out.c0
              have c1 := HT2.out.c1
              have c2 := HT2.out.c2
              have c3 := HT2.out.c3
              have c4 := HT2.out.c4
              have b0 := HT2.out.free 0
              have b1 := HT2.out.free 1
              have b2 := HT2.out.free 2
              have b3 := HT2.out.free 3
              have b4 := HT2.out.free 4
              have lt1 : B + 1 < w2.heap.size := HT2.out.size
              obtain ⟨r0, r1, r2, r3, r4, hres⟩ := HT2.out.res
              have z0 := cell_of_heap hres 0 rfl
              have z1 := cell_of_heap hres 1 rfl
              have z2 := cell_of_heap hres 2 rfl
              have z3 := cell_of_heap hres 3 rfl
              have z4 := cell_of_heap hres 4 rfl
              have f0 := free_of_heap hres 0
              have f1 := free_of_heap hres 1
              have f2 := free_of_heap hres 2
              have f3 := free_of_heap hres 3
              have f4 := free_of_heap hres 4
              have HRS := Lib.hid hres
              clear hres
              by_cases hk1 : k + 1 < d.length
              case neg =>
                have hge1 : (d.length : Int) ≤ (k : Int) + 1 := by omega
                go_wp2
                refine bodyPost_ret (v := .agg #[.slice pS n cS, .int .i64 (k + 1 : Nat), .bool false, .bool al, .bool true]) (results_cell_row rfl _ _ B 119 _ (0, 0) _ rfl (heap_setCell (heap_setCell (heap_setCell (heap_setCell (heap_setCell (HT2.out.setTo (k + 1)).res.choose_spec.choose_spec.choose_spec.choose_spec.choose_spec 0 _) 1 _) 2 _) 3 _) 4 _) Tryz.underlying119 rfl (by kernel_rfl)) rfl (FIN.out (HT2.out.setTo (k + 1)) (below_setN HB2.out (show B ≤ B + 1 by omega) 1 _) (by omega) hkl (fun h => (by cases h)) (fun q' _ _ h => absurd ((HSB.out q' h).esc HCC.out).1 hk1))
              case pos =>
                have hge1 : ¬ (d.length : Int) ≤ (k : Int) + 1 := by omega
                have hlt1 : (k : Int) + 1 < (d.length : Int) := by omega
                have hnn1 : (0 : Int) ≤ (k : Int) + 1 := by omega
                have htn1 : ((k : Int) + 1).toNat = k + 1 := by omega
                have q1 := (HB2.out.cell (p := ⟨bd, off + (k + 1), none⟩) hbd).trans (HCL.out (k + 1) hk1)
                obtain ⟨e1, hee⟩ : ∃ e1, d.getD (k + 1) 0 = e1 := ⟨_, rfl⟩
                rw [hee] at q1
                have HEE := Lib.hid hee
                clear hee
                go_upto_region 20 with (go_at_call 128; refine (escaped_any e1 _).mono ?_; rintro e w3 ⟨v, t, rfl, hes, rfl⟩; have HES := Lib.hid hes; clear hes)
                cases t
                case true =>
                  obtain ⟨S2, W1, hr, u0, x0, ht2, hb2⟩ := txt_byte HT2.out v (by omega) HB2.out
                  obtain ⟨p2, c2', rfl⟩ := ht2.form
                  have HR := Lib.hid hr
                  have HT3 := Lib.hid ht2
                  have HB3 := Lib.hid hb2
                  have HSB2 : Hid (∀ q', SB d (at' + 1) q' → SB d (k + 2) q') := fun q' h => by
                    rcases ((HSB.out q' h).esc HCC.out).2 with ⟨-, h2⟩ | ⟨-, h2, -⟩
                    · exact h2
                    · have := HES.out.1 rfl
                      rw [← HEE.out, h2] at this
                      exact absurd this short_117
                  clear hr ht2 hb2
                  go_wp2_with (at_builtin; refine Lib.wpList_append_run_sl _ rfl _ _ 22 rfl _ _ rfl rfl HR.out ?_)
                  go_roundg (gk - 2)
                  case measure => omega
                  case rel => exact ⟨k + 2, n + 1, k, _, al, true, by omega, by go_num, by omega, by omega, by omega, HT3.out, HB3.out, HSB2.out⟩
                case false =>
                  have hns : ¬ Short e1 := fun h => by have := HES.out.2 h; cases this
                  by_cases h117 : e1 = 117
                  case neg =>
                    have x1 : (e1 != 117) = true := bne_iff_ne.2 h117
                    have x2 : (e1 == 117) = false := beq_eq_false_iff_ne.2 h117
                    have HNS := Lib.hid hns
                    clear hns
                    go_wp2
                    refine bodyPost_ret (v := .agg #[.slice pS n cS, .int .i64 (k + 1 : Nat), .bool false, .bool al, .bool true]) (results_cell_row rfl _ _ B 119 _ (0, 0) _ rfl (heap_setCell (heap_setCell (heap_setCell (heap_setCell (heap_setCell (HT2.out.setTo (k + 1)).res.choose_spec.choose_spec.choose_spec.choose_spec.choose_spec 0 _) 1 _) 2 _) 3 _) 4 _) Tryz.underlying119 rfl (by kernel_rfl)) rfl (FIN.out (HT2.out.setTo (k + 1)) (below_setN HB2.out (show B ≤ B + 1 by omega) 1 _) (by omega) hkl (fun h => (by cases h)) (fun q' _ _ h => by rcases ((HSB.out q' h).esc HCC.out).2 with ⟨h2, -⟩ | ⟨-, h2, -⟩; exact absurd (HEE.out ▸ h2) HNS.out; exact absurd (HEE.out.symm.trans h2) h117))
                  case pos =>
                    subst h117
                    clear hns
                    go_upto_region 27 with (go_at_call 44; refine (four_any (at' := k + 2) (HD.out.below (HB2.out.mono (Nat.le_of_eq HBB.out))) HBY.out hl (by omega)).mono ?_; rintro e w3 ⟨n4, q4, rfl, v0, v1, v2, v3, v4, v5, hk4⟩; have HK4 := Lib.hid (below_of_kept hk4); have HV4 := Lib.hid v4; have HV5 := Lib.hid v5; clear hk4 v4 v5)
                    clear c0 c1 c2 c3 c4 b0 b1 b2 b3 b4 lt1 z0 z1 z2 z3 z4 f0 f1 f2 f3 f4 HRS q1
                    have HT3 := Lib.hid (HT2.out.below HK4.out)
                    have HB3 : Hid (Below B w w3) := HB2.out.trans (HK4.out.mono (by have := HT2.out.size; omega))
                    clear HT2 HB2 HK4
                    have c0 := HT3.out.c0
                    have c1 := HT3.out.c1
                    have c2 := HT3.out.c2
                    have c3 := HT3.out.c3
                    have c4 := HT3.out.c4
                    have b0 := HT3.out.free 0
                    have b1 := HT3.out.free 1
                    have b2 := HT3.out.free 2
                    have b3 := HT3.out.free 3
                    have b4 := HT3.out.free 4
                    have lt1 : B + 1 < w3.heap.size := HT3.out.size
                    obtain ⟨r0, r1, r2, r3, r4, hres⟩ := HT3.out.res
                    have z0 := cell_of_heap hres 0 rfl
                    have z1 := cell_of_heap hres 1 rfl
                    have z2 := cell_of_heap hres 2 rfl
                    have z3 := cell_of_heap hres 3 rfl
                    have z4 := cell_of_heap hres 4 rfl
                    have f0 := free_of_heap hres 0
                    have f1 := free_of_heap hres 1
                    have f2 := free_of_heap hres 2
                    have f3 := free_of_heap hres 3
                    have f4 := free_of_heap hres 4
                    have HRS := Lib.hid hres
                    clear hres
                    by_cases hn4 : n4 < 0
                    case pos =>
                      go_wp2
                      refine bodyPost_ret (v := .agg #[.slice pS n cS, .int .i64 (q4 : Nat), .bool false, .bool al, .bool true]) (results_cell_row rfl _ _ B 119 _ (0, 0) _ rfl (heap_setCell (heap_setCell (heap_setCell (heap_setCell (heap_setCell (HT3.out.setTo q4).res.choose_spec.choose_spec.choose_spec.choose_spec.choose_spec 0 _) 1 _) 2 _) 3 _) 4 _) Tryz.underlying119 rfl (by kernel_rfl)) rfl (FIN.out (HT3.out.setTo q4) (below_setN HB3.out (show B ≤ B + 1 by omega) 1 _) (by omega) v3 (fun h => (by cases h)) (fun q' _ _ h => by rcases ((HSB.out q' h).esc HCC.out).2 with ⟨h2, -⟩ | ⟨h1, -, h3, -⟩; exact absurd (HEE.out ▸ h2) short_117; exact absurd (HV5.out fun j hj => ⟨by omega, h3 j hj⟩) (by omega)))
                    case neg =>
                      have hk6 : k + 6 ≤ q4 := by have := HV4.out (by omega); omega
                      have HSB6 : Hid (∀ q', SB d (at' + 1) q' → SB d q4 q') := fun q' h => by
                        rw [show q4 = k + 6 by have := HV4.out (by omega); omega]
                        rcases ((HSB.out q' h).esc HCC.out).2 with ⟨h2, -⟩ | ⟨-, -, -, h3⟩
                        · exact absurd (HEE.out ▸ h2) short_117
                        · exact h3
                      have hm0 : 0 ≤ n4 := by omega
                      have HI4 : Hid (∀ {wx : World}, Below w3.heap.size w3 wx → TxtAt wx B (.slice pS n cS) n k false al true ∧ Below B w wx ∧ Bs wx (some ⟨bd, off, none⟩) d) := fun hb =>
                        have hbb : Below B w _ := HB3.out.trans (hb.mono (by have := HT3.out.size; omega))
                        ⟨HT3.out.below hb, hbb, HD.out.below (hbb.mono (Nat.le_of_eq HBB.out))⟩
                      have HKW : Hid (∀ j, Below w3.heap.size w3 (w3.drewN j)) := fun j => ⟨rfl, rfl, rfl, Nat.le_refl _, fun _ _ => rfl⟩
                      have HKR : Hid (Below w3.heap.size w3 w3) := Below.refl _ w3
                      go_upto_region 31 with fail
                      go_cut [144] from 120 to 143 (fun a144 wx => ∃ b : Bool, a144 = .bool b ∧ (b = true → ((55296 ≤ n4 ∧ n4 < 56320) ∧ q4 + 1 < d.length ∧ d.getD q4 0 = 92 ∧ d.getD (q4 + 1) 0 = 117)) ∧ Below w3.heap.size w3 wx)
                      case first =>
                        by_cases hh : 55296 ≤ n4 ∧ n4 < 56320
                        case neg =>
                          obtain ⟨hf, hv, hf1⟩ : ∃ hf, halfV n4 = hf ∧ ¬ 0 < hf := by
                            refine ⟨_, rfl, ?_⟩
                            unfold halfV; rw [if_neg hh]; split <;> omega
                          go_wp2_with (go_at_call 45; refine (half_any n4 _).mono ?_; rintro e w4 ⟨rfl, rfl⟩; rw [hv])
                          all_goals
                            go_meet
                            refine ⟨false, by first | rfl | simp_all, (fun h => (by cases h)), ?_⟩
                            first | exact HKR.out | exact HKW.out _
                        case pos =>
                          have hv : halfV n4 = 1 := by unfold halfV; rw [if_pos hh]
                          by_cases hl7 : q4 + 1 < d.length
                          case neg =>
                            have hl7' : ¬ (q4 : Int) + 1 < (d.length : Int) := by omega
                            go_wp2_with (go_at_call 45; refine (half_any n4 _).mono ?_; rintro e w4 ⟨rfl, rfl⟩; rw [hv])
                            all_goals
                              go_meet
                              refine ⟨false, by first | rfl | simp_all, (fun h => (by cases h)), ?_⟩
                              first | exact HKR.out | exact HKW.out _
                          case pos =>
                            have hl7' : (q4 : Int) + 1 < (d.length : Int) := by omega
                            have hl6' : (q4 : Int) < (d.length : Int) := by omega
                            have hnn7 : (0 : Int) ≤ (q4 : Int) + 1 := by omega
                            have htn7 : ((q4 : Int) + 1).toNat = q4 + 1 := by omega
                            have q6 := (HB3.out.cell (p := ⟨bd, off + q4, none⟩) hbd).trans (HCL.out q4 (by omega))
                            have q7 := (HB3.out.cell (p := ⟨bd, off + (q4 + 1), none⟩) hbd).trans (HCL.out (q4 + 1) hl7)
                            obtain ⟨d6, h6⟩ : ∃ d6, d.getD q4 0 = d6 := ⟨_, rfl⟩
                            obtain ⟨d7, h7⟩ : ∃ d7, d.getD (q4 + 1) 0 = d7 := ⟨_, rfl⟩
                            rw [h6] at q6
                            rw [h7] at q7
                            have H6 := Lib.hid h6
                            have H7 := Lib.hid h7
                            clear h6 h7
                            by_cases e6 : d6 = 92
                            case neg =>
                              have x6 : (d6 == 92) = false := beq_eq_false_iff_ne.2 e6
                              go_wp2_with (go_at_call 45; refine (half_any n4 _).mono ?_; rintro e w4 ⟨rfl, rfl⟩; rw [hv])
                              all_goals
                                go_meet
                                refine ⟨false, by first | rfl | simp_all, (fun h => (by cases h)), ?_⟩
                                first | exact HKR.out | exact HKW.out _
                            case pos =>
                              subst e6
                              by_cases e7 : d7 = 117
                              case neg =>
                                have x7 : (d7 == 117) = false := beq_eq_false_iff_ne.2 e7
                                go_wp2_with (go_at_call 45; refine (half_any n4 _).mono ?_; rintro e w4 ⟨rfl, rfl⟩; rw [hv])
                                all_goals
                                  go_meet
                                  refine ⟨false, by first | rfl | simp_all, (fun h => (by cases h)), ?_⟩
                                  first | exact HKR.out | exact HKW.out _
                              case pos =>
                                subst e7
                                go_wp2_with (go_at_call 45; refine (half_any n4 _).mono ?_; rintro e w4 ⟨rfl, rfl⟩; rw [hv])
                                all_goals
                                  go_meet
                                  refine ⟨true, by first | rfl | simp_all, fun _ => ⟨by omega, by omega, H6.out, H7.out⟩, ?_⟩
                                  first | exact HKR.out | exact HKW.out _
                      case rest =>
                        obtain ⟨b, rfl, hbt, hkc⟩ := hcut
                        clear c0 c1 c2 c3 c4 b0 b1 b2 b3 b4 lt1 z0 z1 z2 z3 z4 f0 f1 f2 f3 f4 HRS
                        have HBT := Lib.hid hbt
                        have HKC := Lib.hid hkc
                        clear hbt hkc
                        go_upto_if 144 with fail
                        go_cut [6, 9, 11, 12] from 145 to 166 (fun a6 a9 a11 a12 wx => ∃ (i2 : Nat) (n2 : Int), a6 = .int .i64 i2 ∧ a9 = .int .i64 n2 ∧ 0 ≤ n2 ∧ n2 ≤ 1114111 ∧ k + 6 ≤ i2 ∧ i2 ≤ d.length ∧ (∀ q', SB d (at' + 1) q' → SB d i2 q') ∧ Below w3.heap.size w3 wx)
                        case first =>
                          cases b
                          case false =>
                            go_wp2
                            go_meet
                            exact ⟨q4, n4, rfl, rfl, by omega, by omega, by omega, v3, HSB6.out, HKC.out⟩
                          case true =>
                            obtain ⟨hh, hl7, h6, h7⟩ := HBT.out rfl
                            have H6 := Lib.hid h6
                            have H7 := Lib.hid h7
                            clear h6 h7
                            have hv : halfV n4 = 1 := by unfold halfV; rw [if_pos hh]
                            go_upto_region 33 with (go_at_call 44; refine (four_any (at' := q4 + 2) (HI4.out HKC.out).2.2 HBY.out hl (by omega)).mono ?_; rintro e w5 ⟨m, q5, rfl, m0, m1, m2, m3, m4, m5, hk5⟩; have HK5 := Lib.hid (below_of_kept hk5); have HM4 := Lib.hid m4; clear hk5 m4 m5)
                            have HK6 : Hid (Below w3.heap.size w3 w5) := HKC.out.trans (HK5.out.mono HKC.out.size)
                            have HK7 : Hid (∀ j, Below w3.heap.size w3 (w5.drewN j)) := fun j => HK6.out.trans ⟨rfl, rfl, rfl, Nat.le_refl _, fun _ _ => rfl⟩
                            clear HKC HK5
                            by_cases hm : 0 ≤ m
                            case neg =>
                              go_wp2_with (go_at_call 45; refine (half_any m _).mono ?_; rintro e w6 ⟨rfl, rfl⟩)
                              all_goals
                                go_meet
                                refine ⟨q4, n4, rfl, rfl, by omega, by omega, by omega, v3, HSB6.out, ?_⟩
                                first | exact HK6.out | exact HK7.out _
                            case pos =>
                              by_cases hlo : 56320 ≤ m ∧ m < 57344
                              case neg =>
                                obtain ⟨hf, hvf, hf1⟩ : ∃ hf, halfV m = hf ∧ ¬ hf < 0 := by
                                  refine ⟨_, rfl, ?_⟩
                                  unfold halfV; split <;> (try split) <;> omega
                                have HVF := Lib.hid hvf
                                clear hvf
                                go_wp2_with (go_at_call 45; refine (half_any m _).mono ?_; rintro e w6 ⟨rfl, rfl⟩; rw [HVF.out])
                                all_goals
                                  go_meet
                                  refine ⟨q4, n4, rfl, rfl, by omega, by omega, by omega, v3, HSB6.out, ?_⟩
                                  first | exact HK6.out | exact HK7.out _
                              case pos =>
                                have HVF : Hid (halfV m = -1) := by
                                  show halfV m = -1
                                  unfold halfV; rw [if_neg (by omega), if_pos hlo]
                                have hq5 : q4 + 6 ≤ q5 := by have := HM4.out hm; omega
                                have HSB7 : Hid (∀ q', SB d (at' + 1) q' → SB d q5 q') := fun q' h => by
                                  rw [show q5 = q4 + 6 by have := HM4.out hm; omega]
                                  rcases ((HSB6.out q' h).esc H6.out).2 with ⟨h2, -⟩ | ⟨-, -, -, h3⟩
                                  · exact absurd (H7.out ▸ h2) short_117
                                  · exact h3
                                go_wp2_with (go_at_call 45; refine (half_any m _).mono ?_; rintro e w6 ⟨rfl, rfl⟩; rw [HVF.out])
                                all_goals
                                  go_meet
                                  refine ⟨q5, 65536 + (n4 - 55296) * 1024 + (m - 56320), rfl, ?_, by omega, by omega, by omega, m3, HSB7.out, ?_⟩
                                  · go_num
                                  · first | exact HK6.out | exact HK7.out _
                        case rest =>
                          obtain ⟨i2, n2, rfl, rfl, hn0, hn1, hki, hil, hsb7, hkd⟩ := hcut
                          have HT4 := Lib.hid (HI4.out hkd).1
                          have HB4 := Lib.hid (HI4.out hkd).2.1
                          have HSB8 := Lib.hid hsb7
                          clear hsb7 hkd HSB6 HKC HKW HKR HBT HV4 HV5
                          have c0 := HT4.out.c0
                          have c1 := HT4.out.c1
                          have c2 := HT4.out.c2
                          have c3 := HT4.out.c3
                          have c4 := HT4.out.c4
                          have b0 := HT4.out.free 0
                          have b1 := HT4.out.free 1
                          have b2 := HT4.out.free 2
                          have b3 := HT4.out.free 3
                          have b4 := HT4.out.free 4
                          have lt1 : B + 1 < wc.heap.size := HT4.out.size
                          obtain ⟨r0, r1, r2, r3, r4, hres⟩ := HT4.out.res
                          have z0 := cell_of_heap hres 0 rfl
                          have z1 := cell_of_heap hres 1 rfl
                          have z2 := cell_of_heap hres 2 rfl
                          have z3 := cell_of_heap hres 3 rfl
                          have z4 := cell_of_heap hres 4 rfl
                          have f0 := free_of_heap hres 0
                          have f1 := free_of_heap hres 1
                          have f2 := free_of_heap hres 2
                          have f3 := free_of_heap hres 3
                          have f4 := free_of_heap hres 4
                          have HRS := Lib.hid hres
                          clear hres
                          go_upto_region 36 with fail
                          go_cut [] from 167 to 174 (fun wx => ∃ al' : Bool, TxtAt wx B (.slice pS n cS) n k false al' true ∧ Below B w wx)
                          case first =>
                            cases al
                            all_goals
                              go_wp2_with (go_at_call 45; refine (half_any n2 _).mono ?_; rintro e w6 ⟨rfl, rfl⟩)
                              all_goals
                                go_meet
                                exact ⟨_, HT4.out.setAl _, below_setN HB4.out (show B ≤ B + 1 by omega) 3 _⟩
                          case rest =>
                            obtain ⟨al', ht5, hb5⟩ := hcut
                            clear c0 c1 c2 c3 c4 b0 b1 b2 b3 b4 lt1 z0 z1 z2 z3 z4 f0 f1 f2 f3 f4 HRS HT3 HB3 HT4 HB4 HI4
                            have HT5 := Lib.hid ht5
                            have HB5 := Lib.hid hb5
                            clear ht5 hb5
                            have c0 := HT5.out.c0
                            have c1 := HT5.out.c1
                            have c2 := HT5.out.c2
                            have c3 := HT5.out.c3
                            have c4 := HT5.out.c4
                            have b0 := HT5.out.free 0
                            have b1 := HT5.out.free 1
                            have b2 := HT5.out.free 2
                            have b3 := HT5.out.free 3
                            have b4 := HT5.out.free 4
                            have lt1 : B + 1 < wc.heap.size := HT5.out.size
                            obtain ⟨r0, r1, r2, r3, r4, hres⟩ := HT5.out.res
                            have z0 := cell_of_heap hres 0 rfl
                            have z1 := cell_of_heap hres 1 rfl
                            have z2 := cell_of_heap hres 2 rfl
                            have z3 := cell_of_heap hres 3 rfl
                            have z4 := cell_of_heap hres 4 rfl
                            have f0 := free_of_heap hres 0
                            have f1 := free_of_heap hres 1
                            have f2 := free_of_heap hres 2
                            have f3 := free_of_heap hres 3
                            have f4 := free_of_heap hres 4
                            have HRS := Lib.hid hres
                            clear hres
                            have HTd : Hid (TxtAt wc.drew B (.slice pS n cS) n k false al' true) := HT5.out.below ⟨rfl, rfl, rfl, Nat.le_refl _, fun _ _ => rfl⟩
                            have HBd : Hid (Below B w wc.drew) := HB5.out.drew
                            go_upto_region 37 with fail
                            go_region_law (first
                              | (go_simp; go_at_call 129; refine (rune_any n2 (by omega) (by omega) _).mono ?_; rintro e w7 ⟨u, ls, rfl, hu, hls, hbu⟩; have ht7 := HTd.out.below hbu; have hb7 := HBd.out.trans (hbu.mono (by have := HTd.out.size; omega)); have y5 := ht7.c0; have fr5 := ht7.free 0; have lt3 : B + 1 < w7.heap.size := ht7.size; obtain ⟨S2, W1, hr, u0, x0, ht2, hb2⟩ := txt_bytes ht7 hu hls (by omega) hb7; obtain ⟨p2, c2', rfl⟩ := ht2.form; have HR := Lib.hid hr; have HT6 := Lib.hid ht2; have HB6 := Lib.hid hb2; clear hr ht2 hb2 ht7 hb7 hu hbu)
                              | (refine step_append_run rfl (.tmp 176) (.tmp 178) 22 rfl _ _ rfl rfl HR.out ?_))
                            all_goals
                              go_wp2
                              go_roundg (gk - (i2 - k))
                              case measure => omega
                              case rel => exact ⟨i2, n + ls.length, k, _, al', true, by omega, rfl, by omega, by omega, by omega, HT6.out, HB6.out, HSB8.out⟩
end Go.Proofs.YtaecbclonmhbcaaGreatDoor
