/- The reference's object. -/
import Derived.Test.YtaecbclonmhbcaaGreatDoorR36
set_option linter.unusedVariables false
set_option linter.unusedSimpArgs false
namespace Go.Proofs.YtaecbclonmhbcaaGreatDoor
open Go.RowKit
def Mem (d : List Int) (k q : Nat) : Prop := ∃ r s t u v, Bl d k r ∧ r < d.length ∧ d.getD r 0 = 34 ∧ SB d (r + 1) s ∧ Bl d s t ∧ t < d.length ∧ d.getD t 0 = 58 ∧ Bl d (t + 1) u ∧ G d 0 u v ∧ G d 4 v q
theorem obj_open {d : List Int} {p q r1 : Nat} (h : G d 3 p q) (hb : BlTo d p r1) : r1 < d.length ∧ ((d.getD r1 0 = 125 ∧ q = r1 + 1) ∨ (d.getD r1 0 ≠ 125 ∧ Mem d r1 q)) := by
  cases h with
  | oEnd h1 h2 h3 =>
    obtain rfl := hb.eq h1 (fun _ => by rw [h3]; rfl)
    exact ⟨h2, .inl ⟨h3, rfl⟩⟩
  | oFst h =>
    cases h with
    | oVal h1 h2 h3 h4 h5 h6 h7 h8 h9 h10 =>
      obtain rfl := hb.eq h1 (fun _ => by rw [h3]; rfl)
      exact ⟨h2, .inr ⟨by rw [h3]; decide, _, _, _, _, _, Bl.refl (by omega), h2, h3, h4, h5, h6, h7, h8, h9, h10⟩⟩
theorem obj_next {d : List Int} {p q r1 : Nat} (h : G d 4 p q) (hb : BlTo d p r1) : r1 < d.length ∧ ((d.getD r1 0 = 125 ∧ q = r1 + 1) ∨ (d.getD r1 0 = 44 ∧ Mem d (r1 + 1) q)) := by
  cases h with
  | oStop h1 h2 h3 =>
    obtain rfl := hb.eq h1 (fun _ => by rw [h3]; rfl)
    exact ⟨h2, .inl ⟨h3, rfl⟩⟩
  | oMore h1 h2 h3 h =>
    obtain rfl := hb.eq h1 (fun _ => by rw [h3]; rfl)
    cases h with
    | oVal g1 g2 g3 g4 g5 g6 g7 g8 g9 g10 => exact ⟨h2, .inr ⟨h3, _, _, _, _, _, g1, g2, g3, g4, g5, g6, g7, g8, g9, g10⟩⟩
def ObI (d : List Int) (at' B : Nat) (w : World) (gk : Nat) (v1 : Value) (wr : World) : Prop :=
  ∃ (k up cn cl : Nat) (N L : Value), gk + k = d.length ∧ v1 = .int .i64 k ∧ at' < k ∧ k ≤ d.length ∧ cn ≤ k ∧ cl ≤ k ∧ NodeAt wr B 7 at' up (.slice none 0 0) N L cn cl ∧ Below B w wr ∧ (∀ q, G d 3 (at' + 1) q → Mem d k q)
set_option maxHeartbeats 8000000 in
set_option maxRecDepth 100000 in
theorem object_spec {n : Nat} {p : Option Addr} {cap at' : Nat} {deep : Int} {d : List Int} {w : World} (hC : ValC d n) (hd : Bs w p d) (hby : Bytes d) (h32 : ∀ i, i < d.length → 32 ≤ d.getD i 0) (hl : d.length ≤ 100000) (ha : at' < d.length) (hn : d.length - at' ≤ n) (hdp : (d.length : Int) < deep + at') (hdp2 : deep ≤ 1073741824) :
    Calls Tryz.prog 99 #[.slice p d.length cap, .int .i64 at', .int .i64 deep] w (NodeQ d at' (fun q => G d 3 (at' + 1) q) w) := by
  obtain ⟨B, hB⟩ : ∃ B, w.heap.size = B := ⟨_, rfl⟩
  have HC := Lib.hid hC
  have HD := Lib.hid hd
  have HBY := Lib.hid hby
  have H32 := Lib.hid h32
  have hd0 : 1 ≤ deep := by omega
  have hbelow : Below B w ((w.alloc (.cells #[.int .i64 0, .int .i64 0, .int .i64 0, .slice none 0 0, .slice none 0 0, .slice none 0 0] 71)).alloc (.cells #[.int .i64 7, .int .i64 at', .int .i64 0, .slice none 0 0, .slice none 0 0, .slice none 0 0] 71)) := by
    rw [← hB]
    exact ((Below.refl _ w).alloc (Nat.le_refl _) _).alloc (by simp) _
  have hnode : NodeAt ((w.alloc (.cells #[.int .i64 0, .int .i64 0, .int .i64 0, .slice none 0 0, .slice none 0 0, .slice none 0 0] 71)).alloc (.cells #[.int .i64 7, .int .i64 at', .int .i64 0, .slice none 0 0, .slice none 0 0, .slice none 0 0] 71)) B 7 at' 0 (.slice none 0 0) (.slice none 0 0) (.slice none 0 0) 0 0 := by
    have hs : (w.alloc (.cells #[.int .i64 0, .int .i64 0, .int .i64 0, .slice none 0 0, .slice none 0 0, .slice none 0 0] 71)).heap.size = B + 1 := by rw [← hB]; simp
    refine ⟨⟨.int .i64 0, .int .i64 0, .int .i64 0, .slice none 0 0, .slice none 0 0, .slice none 0 0, ?_⟩, ?_, ⟨[], World.ownsRow_nil _ _ _ _⟩, ⟨[], World.ownsRow_nil _ _ _ _⟩, fun j hj => by cases hj⟩
    · rw [heap_alloc_lt (by omega), ← hB]; exact heap_alloc_new w _
    · rw [← hs]; exact heap_alloc_new _ _
  have HB0 := Lib.hid hbelow
  have HT0 := Lib.hid hnode
  have HBB := Lib.hid hB
  have FIN : Hid (∀ {W : World} {p3 p4 p5 : Option Addr} {l3 c3 l4 c4 l5 c5 cn cl up : Nat} {kd : Int} {ok : Bool}, NodeAt W B kd at' up (.slice p3 l3 c3) (.slice p4 l4 c4) (.slice p5 l5 c5) cn cl → Below B w W → at' ≤ up → up ≤ d.length → (ok = true → at' < up) → (∀ q', G d 3 (at' + 1) q' → ok = true ∧ up = q') →
      NodeQ d at' (fun q => G d 3 (at' + 1) q) w (.returned (.tuple #[.agg #[.int .i64 kd, .int .i64 (at' : Nat), .int .i64 (up : Nat), .slice p3 l3 c3, .slice p4 l4 c4, .slice p5 l5 c5], .bool ok])) ((((((W.setCell ⟨B, 0, none⟩ (.int .i64 kd)).setCell ⟨B, 1, none⟩ (.int .i64 (at' : Nat))).setCell ⟨B, 2, none⟩ (.int .i64 (up : Nat))).setCell ⟨B, 3, none⟩ (.slice p3 l3 c3)).setCell ⟨B, 4, none⟩ (.slice p4 l4 c4)).setCell ⟨B, 5, none⟩ (.slice p5 l5 c5))) := by
    intro W p3 p4 p5 l3 c3 l4 c4 l5 c5 cn cl up kd ok h1 h2 h3 h4 h5 h6
    exact ⟨_, _, _, _, _, _, _, _, _, _, _, _, _, rfl, h3, h4, h5, h6, (below_set6 h2 _ _ _ _ _ _).mono (Nat.le_of_eq hB)⟩
  clear hC hd hby h32 hbelow hnode
  go_enter Tryz.func99, Tryz.ntmps99
  go_upto_region 2 with fail
  generalize (w.alloc (.cells #[.int .i64 0, .int .i64 0, .int .i64 0, .slice none 0 0, .slice none 0 0, .slice none 0 0] 71)).alloc (.cells #[.int .i64 7, .int .i64 at', .int .i64 0, .slice none 0 0, .slice none 0 0, .slice none 0 0] 71) = wa at HB0 HT0 ⊢
  have c0 : wa.cell? ⟨B + 1, 0, none⟩ = some (.int .i64 7) := HT0.out.c 0 rfl
  have c1 : wa.cell? ⟨B + 1, 1, none⟩ = some (.int .i64 (at' : Nat)) := HT0.out.c 1 rfl
  have c2 : wa.cell? ⟨B + 1, 2, none⟩ = some (.int .i64 (0 : Nat)) := HT0.out.c 2 rfl
  have c3 : wa.cell? ⟨B + 1, 3, none⟩ = some (.slice none 0 0) := HT0.out.c 3 rfl
  have c4 : wa.cell? ⟨B + 1, 4, none⟩ = some (.slice none 0 0) := HT0.out.c 4 rfl
  have c5 : wa.cell? ⟨B + 1, 5, none⟩ = some (.slice none 0 0) := HT0.out.c 5 rfl
  have b2 := HT0.out.free 2
  have b4 := HT0.out.free 4
  have b5 := HT0.out.free 5
  have lt1 : B + 1 < wa.heap.size := HT0.out.size
  obtain ⟨r0, r1', r2', r3, r4, r5, hres⟩ := HT0.out.res
  have z0 := cell_of_heap hres 0 rfl
  have z1 := cell_of_heap hres 1 rfl
  have z2 := cell_of_heap hres 2 rfl
  have z3 := cell_of_heap hres 3 rfl
  have z4 := cell_of_heap hres 4 rfl
  have z5 := cell_of_heap hres 5 rfl
  have f0 := free_of_heap hres 0
  have f1 := free_of_heap hres 1
  have f2 := free_of_heap hres 2
  have f3 := free_of_heap hres 3
  have f4 := free_of_heap hres 4
  have f5 := free_of_heap hres 5
  clear hres
  go_upto_region 3 with (go_at_call 42; refine (blanks_any (at' := at' + 1) (HD.out.below (HB0.out.mono (Nat.le_of_eq HBB.out))) hl (by omega)).mono ?_; rintro e w3 ⟨r1, rfl, hb1, rfl⟩; have HB1 := Lib.hid hb1; have hr1 := hb1.1.1; have hr2 := hb1.1.2.1; clear hb1)
  obtain ⟨bd, off, rfl, hbd, hc⟩ := HD.out (by omega)
  rw [HBB.out] at hbd
  have HCL := Lib.hid hc
  clear hc
  have HKW : Hid (∀ j, Below wa.heap.size wa (wa.drewN j)) := fun j => ⟨rfl, rfl, rfl, Nat.le_refl _, fun _ _ => rfl⟩
  have HKR : Hid (Below wa.heap.size wa wa) := Below.refl _ wa
  go_cut [28] from 18 to 27 (fun a27 wx => ∃ b : Bool, a27 = .bool b ∧ (b = true ↔ r1 < d.length ∧ d.getD r1 0 = 125) ∧ Below wa.heap.size wa wx)
  case first =>
    by_cases hlt : r1 < d.length
    case neg =>
      have hlt' : ¬ (r1 : Int) < (d.length : Int) := by omega
      go_wp2
      all_goals
        go_meet
        refine ⟨false, rfl, ⟨fun h => (by cases h), fun h => absurd h.1 hlt⟩, ?_⟩
        first | exact HKR.out | exact HKW.out _
    case pos =>
      have hlt' : (r1 : Int) < (d.length : Int) := by omega
      have q0 := (HB0.out.cell (p := ⟨bd, off + r1, none⟩) hbd).trans (HCL.out r1 hlt)
      obtain ⟨c, hcc⟩ : ∃ c, d.getD r1 0 = c := ⟨_, rfl⟩
      rw [hcc] at q0
      have HCC := Lib.hid hcc
      clear hcc
      by_cases h125 : c = 125
      case neg =>
        have e1 : (c == 125) = false := beq_eq_false_iff_ne.2 h125
        go_wp2
        all_goals
          go_meet
          refine ⟨false, rfl, ⟨fun h => (by cases h), fun h => absurd (HCC.out.symm.trans h.2) h125⟩, ?_⟩
          first | exact HKR.out | exact HKW.out _
      case pos =>
        subst h125
        go_wp2
        all_goals
          go_meet
          refine ⟨true, rfl, ⟨fun _ => ⟨hlt, HCC.out⟩, fun _ => rfl⟩, ?_⟩
          first | exact HKR.out | exact HKW.out _
  case rest =>
    obtain ⟨b, rfl, hbt, hkc⟩ := hcut
    clear c0 c1 c2 c3 c4 c5 b2 b4 b5 lt1 z0 z1 z2 z3 z4 z5 f0 f1 f2 f3 f4 f5
    have HBT := Lib.hid hbt
    have HT1 := Lib.hid (HT0.out.below hkc)
    have HBx : Hid (Below B w wc) := HB0.out.trans (hkc.mono (by have := HT0.out.size; omega))
    clear hbt hkc HT0 HB0 HKW HKR
    have c0 : wc.cell? ⟨B + 1, 0, none⟩ = some (.int .i64 7) := HT1.out.c 0 rfl
    have c1 : wc.cell? ⟨B + 1, 1, none⟩ = some (.int .i64 (at' : Nat)) := HT1.out.c 1 rfl
    have c2 : wc.cell? ⟨B + 1, 2, none⟩ = some (.int .i64 (0 : Nat)) := HT1.out.c 2 rfl
    have c3 : wc.cell? ⟨B + 1, 3, none⟩ = some (.slice none 0 0) := HT1.out.c 3 rfl
    have c4 : wc.cell? ⟨B + 1, 4, none⟩ = some (.slice none 0 0) := HT1.out.c 4 rfl
    have c5 : wc.cell? ⟨B + 1, 5, none⟩ = some (.slice none 0 0) := HT1.out.c 5 rfl
    have b2 := HT1.out.free 2
    have b4 := HT1.out.free 4
    have b5 := HT1.out.free 5
    have lt1 : B + 1 < wc.heap.size := HT1.out.size
    obtain ⟨r0, r1', r2', r3, r4, r5, hres⟩ := HT1.out.res
    have z0 := cell_of_heap hres 0 rfl
    have z1 := cell_of_heap hres 1 rfl
    have z2 := cell_of_heap hres 2 rfl
    have z3 := cell_of_heap hres 3 rfl
    have z4 := cell_of_heap hres 4 rfl
    have z5 := cell_of_heap hres 5 rfl
    have f0 := free_of_heap hres 0
    have f1 := free_of_heap hres 1
    have f2 := free_of_heap hres 2
    have f3 := free_of_heap hres 3
    have f4 := free_of_heap hres 4
    have f5 := free_of_heap hres 5
    clear hres
    cases b
    case true =>
      obtain ⟨hlt, h125⟩ := HBT.out.1 rfl
      have H125 := Lib.hid h125
      clear h125
      go_wp2
      refine bodyPost_ret (v := .tuple #[.agg #[.int .i64 7, .int .i64 (at' : Nat), .int .i64 (r1 + 1 : Nat), .slice none 0 0, .slice none 0 0, .slice none 0 0], .bool true]) (results_cell_row_tmp (p := 6) (u := 7) (ty := 71) rfl _ _ B 71 _ (0, 0) _ rfl ((HT1.out.setTo (r1 + 1)).ret _ _ _ _ _ _) Tryz.underlying71 rfl (by kernel_rfl)) rfl (FIN.out (HT1.out.setTo (r1 + 1)) (below_setN HBx.out (show B ≤ B + 1 by omega) 2 _) (by omega) hlt (fun _ => by omega) (fun q h => ⟨rfl, by rcases (obj_open h HB1.out).2 with ⟨-, h1⟩ | ⟨h1, -⟩; exact h1.symm; exact absurd H125.out h1⟩))

    case false =>
      have HI : Hid (ObI d at' B w (d.length - r1) (.int .i64 (r1 : Nat)) wc) := ⟨r1, 0, 0, 0, .slice none 0 0, .slice none 0 0, by omega, rfl, by omega, hr2, by omega, by omega, HT1.out, HBx.out, fun q h => by
        rcases (obj_open h HB1.out).2 with ⟨h1, -⟩ | ⟨-, h1⟩
        · have := HBT.out.2 ⟨(obj_open h HB1.out).1, h1⟩
          cases this
        · exact h1⟩
      clear HBT HT1 HBx
      go_wp2
      clear c0 c1 c2 c3 c4 c5 b2 b4 b5 lt1 z0 z1 z2 z3 z4 z5 f0 f1 f2 f3 f4 f5
      go_loopg [1] (d.length - r1) (fun gk v1 wr => ObI d at' B w gk v1 wr)
      case atStart => first | exact HI.out | (have := HI.out; simpa using this)
      case round =>
        obtain ⟨k, up, cn, cl, N, L, hgk, rfl, hak, hk, hcn, hcl, ht, hb, hg⟩ := hrel
        obtain ⟨pL, cL, rfl⟩ := ht.formL
        obtain ⟨pN, cN, rfl⟩ := ht.formN
        have HTr := Lib.hid ht
        have HBr := Lib.hid hb
        have HG := Lib.hid hg
        clear ht hb hg
        have HDr := Lib.hid (HD.out.below (HBr.out.mono (Nat.le_of_eq HBB.out)))
        go_upto_region 7 with (go_at_call 42; refine (blanks_any (at' := k) HDr.out hl hk).mono ?_; rintro e w3 ⟨r, rfl, hb2, rfl⟩; have HB2 := Lib.hid hb2; have hs1 := hb2.1.1; have hs2 := hb2.1.2.1; clear hb2)
        go_upto_region 8 with (go_at_call 97; refine (string_spec (at' := r) HDr.out HBY.out H32.out hl hs2).mono ?_; rintro e w3 ⟨ps, ls, cs, q1, tok, al, esc, rfl, hq1, hq2, hq3, hq4, hk3⟩; have HQ4 := Lib.hid hq4; have HK3 := Lib.hid hk3; clear hq4 hk3)
        have HT3 := HTr.out.below HK3.out
        have HB3 : Below B w w3 := HBr.out.trans (HK3.out.mono (by have := HTr.out.size; omega))
        have htB : B + 2 ≤ w3.heap.size := HT3.size
        have HLT := Lib.hid (fun j hj => (HT3.ownL j hj).2)
        have HNT := Lib.hid (fun j hj => (HT3.ownN j hj).2)
        have HT4 := Lib.hid (HT3.below (Below.alloc (Below.refl _ w3) (Nat.le_refl _) (.cells #[.slice ps ls cs, .int .i64 (q1 : Nat), .bool tok, .bool al, .bool esc] 119)))
        have HB4 := Lib.hid (HB3.alloc (show B ≤ w3.heap.size by omega) (.cells #[.slice ps ls cs, .int .i64 (q1 : Nat), .bool tok, .bool al, .bool esc] 119))
        have ht4 := heap_alloc_new w3 (.cells #[.slice ps ls cs, .int .i64 (q1 : Nat), .bool tok, .bool al, .bool esc] 119)
        clear HT3 HB3 HTr HBr HK3 HDr
        generalize w3.alloc (.cells #[.slice ps ls cs, .int .i64 (q1 : Nat), .bool tok, .bool al, .bool esc] 119) = w4 at HT4 HB4 ht4 ⊢
        generalize w3.heap.size = T at htB HLT HNT ht4 ⊢
        have ltT : T < w4.heap.size := lt_heap ht4
        have t1 := cell_of_heap ht4 1 rfl
        have HX4 := Lib.hid ht4
        clear ht4
        have c0 : w4.cell? ⟨B + 1, 0, none⟩ = some (.int .i64 7) := HT4.out.c 0 rfl
        have c1 : w4.cell? ⟨B + 1, 1, none⟩ = some (.int .i64 (at' : Nat)) := HT4.out.c 1 rfl
        have c2 : w4.cell? ⟨B + 1, 2, none⟩ = some (.int .i64 (up : Nat)) := HT4.out.c 2 rfl
        have c3 : w4.cell? ⟨B + 1, 3, none⟩ = some (.slice none 0 0) := HT4.out.c 3 rfl
        have c4 : w4.cell? ⟨B + 1, 4, none⟩ = some (.slice pN cn cN) := HT4.out.c 4 rfl
        have c5 : w4.cell? ⟨B + 1, 5, none⟩ = some (.slice pL cl cL) := HT4.out.c 5 rfl
        have b2 := HT4.out.free 2
        have b4 := HT4.out.free 4
        have b5 := HT4.out.free 5
        have lt1 : B + 1 < w4.heap.size := HT4.out.size
        obtain ⟨r0, r1', r2', r3, r4, r5, hres⟩ := HT4.out.res
        have z0 := cell_of_heap hres 0 rfl
        have z1 := cell_of_heap hres 1 rfl
        have z2 := cell_of_heap hres 2 rfl
        have z3 := cell_of_heap hres 3 rfl
        have z4 := cell_of_heap hres 4 rfl
        have z5 := cell_of_heap hres 5 rfl
        have f0 := free_of_heap hres 0
        have f1 := free_of_heap hres 1
        have f2 := free_of_heap hres 2
        have f3 := free_of_heap hres 3
        have f4 := free_of_heap hres 4
        have f5 := free_of_heap hres 5
        clear hres
        go_upto_region 9 with fail
        clear c0 c1 c2 c3 c4 c5 b2 b4 b5 lt1 z0 z1 z2 z3 z4 z5 f0 f1 f2 f3 f4 f5
        have HT5 := Lib.hid (HT4.out.setTo q1)
        have HB5 := Lib.hid (below_setN HB4.out (show B ≤ B + 1 by omega) 2 (.int .i64 (q1 : Nat)))
        have ht5 := (heap_setCell_other (w := w4) 2 (.int .i64 (q1 : Nat)) (show T ≠ B + 1 by omega)).trans HX4.out
        clear t1 ltT HT4 HB4 HX4
        generalize w4.setCell ⟨B + 1, 2, none⟩ (.int .i64 (q1 : Nat)) = w5 at HT5 HB5 ht5 ⊢
        have ltT : T < w5.heap.size := lt_heap ht5
        have t1 := cell_of_heap ht5 1 rfl
        have t2 := cell_of_heap ht5 2 rfl
        have HX5 := Lib.hid ht5
        clear ht5
        have c0 : w5.cell? ⟨B + 1, 0, none⟩ = some (.int .i64 7) := HT5.out.c 0 rfl
        have c1 : w5.cell? ⟨B + 1, 1, none⟩ = some (.int .i64 (at' : Nat)) := HT5.out.c 1 rfl
        have c2 : w5.cell? ⟨B + 1, 2, none⟩ = some (.int .i64 (q1 : Nat)) := HT5.out.c 2 rfl
        have c3 : w5.cell? ⟨B + 1, 3, none⟩ = some (.slice none 0 0) := HT5.out.c 3 rfl
        have c4 : w5.cell? ⟨B + 1, 4, none⟩ = some (.slice pN cn cN) := HT5.out.c 4 rfl
        have c5 : w5.cell? ⟨B + 1, 5, none⟩ = some (.slice pL cl cL) := HT5.out.c 5 rfl
        have b2 := HT5.out.free 2
        have b4 := HT5.out.free 4
        have b5 := HT5.out.free 5
        have lt1 : B + 1 < w5.heap.size := HT5.out.size
        obtain ⟨r0, r1', r2', r3, r4, r5, hres⟩ := HT5.out.res
        have z0 := cell_of_heap hres 0 rfl
        have z1 := cell_of_heap hres 1 rfl
        have z2 := cell_of_heap hres 2 rfl
        have z3 := cell_of_heap hres 3 rfl
        have z4 := cell_of_heap hres 4 rfl
        have z5 := cell_of_heap hres 5 rfl
        have f0 := free_of_heap hres 0
        have f1 := free_of_heap hres 1
        have f2 := free_of_heap hres 2
        have f3 := free_of_heap hres 3
        have f4 := free_of_heap hres 4
        have f5 := free_of_heap hres 5
        clear hres
        cases tok
        case false =>
          go_wp2
          refine bodyPost_ret (v := .tuple #[.agg #[.int .i64 7, .int .i64 (at' : Nat), .int .i64 (q1 : Nat), .slice none 0 0, .slice pN cn cN, .slice pL cl cL], .bool false]) (results_cell_row_tmp (p := 6) (u := 7) (ty := 71) rfl _ _ B 71 _ (0, 0) _ rfl ((HT5.out).ret _ _ _ _ _ _) Tryz.underlying71 rfl (by kernel_rfl)) rfl (FIN.out (HT5.out) (HB5.out) (by omega) hq2 (fun h => (by cases h)) (fun q h => by obtain ⟨r', s, t, u, v, g1, g2, g3, g4, -⟩ := HG.out q h; obtain rfl := HB2.out.eq g1 (fun _ => by rw [g3]; rfl); have := (HQ4.out s g2 g3 g4).1; cases this))
        case true =>
          have hq5 : r < q1 := hq3 rfl
          have HM1 : Hid (∀ q, G d 3 (at' + 1) q → ∃ t u v, Bl d q1 t ∧ t < d.length ∧ d.getD t 0 = 58 ∧ Bl d (t + 1) u ∧ G d 0 u v ∧ G d 4 v q) := fun q h => by
            obtain ⟨r', s, t, u, v, g1, g2, g3, g4, g5, g6, g7, g8, g9, g10⟩ := HG.out q h
            obtain rfl := HB2.out.eq g1 (fun _ => by rw [g3]; rfl)
            rw [(HQ4.out s g2 g3 g4).2]
            exact ⟨t, u, v, g5, g6, g7, g8, g9, g10⟩
          clear HG HQ4 HB2 hq3
          have HD5 := Lib.hid (HD.out.below (HB5.out.mono (Nat.le_of_eq HBB.out)))
          go_upto_region 13 with (go_at_call 42; refine (blanks_any (at' := q1) HD5.out hl hq2).mono ?_; rintro e w6 ⟨r3', rfl, hb3, rfl⟩; have HB3 := Lib.hid hb3; have hs3 := hb3.1.1; have hs4 := hb3.1.2.1; clear hb3)
          clear c0 c1 c2 c3 c4 c5 b2 b4 b5 lt1 z0 z1 z2 z3 z4 z5 f0 f1 f2 f3 f4 f5
          have HT6 := Lib.hid (HT5.out.setTo r3')
          have HB6 := Lib.hid (below_setN HB5.out (show B ≤ B + 1 by omega) 2 (.int .i64 (r3' : Nat)))
          have ht6 := (heap_setCell_other (w := w5) 2 (.int .i64 (r3' : Nat)) (show T ≠ B + 1 by omega)).trans HX5.out
          clear t1 t2 ltT HT5 HB5 HX5 HD5
          generalize w5.setCell ⟨B + 1, 2, none⟩ (.int .i64 (r3' : Nat)) = w6 at HT6 HB6 ht6 ⊢
          have HX6 := Lib.hid ht6
          clear ht6
          have c0 : w6.cell? ⟨B + 1, 0, none⟩ = some (.int .i64 7) := HT6.out.c 0 rfl
          have c1 : w6.cell? ⟨B + 1, 1, none⟩ = some (.int .i64 (at' : Nat)) := HT6.out.c 1 rfl
          have c2 : w6.cell? ⟨B + 1, 2, none⟩ = some (.int .i64 (r3' : Nat)) := HT6.out.c 2 rfl
          have c3 : w6.cell? ⟨B + 1, 3, none⟩ = some (.slice none 0 0) := HT6.out.c 3 rfl
          have c4 : w6.cell? ⟨B + 1, 4, none⟩ = some (.slice pN cn cN) := HT6.out.c 4 rfl
          have c5 : w6.cell? ⟨B + 1, 5, none⟩ = some (.slice pL cl cL) := HT6.out.c 5 rfl
          have b2 := HT6.out.free 2
          have b4 := HT6.out.free 4
          have b5 := HT6.out.free 5
          have lt1 : B + 1 < w6.heap.size := HT6.out.size
          obtain ⟨r0, r1', r2', r3, r4, r5, hres⟩ := HT6.out.res
          have z0 := cell_of_heap hres 0 rfl
          have z1 := cell_of_heap hres 1 rfl
          have z2 := cell_of_heap hres 2 rfl
          have z3 := cell_of_heap hres 3 rfl
          have z4 := cell_of_heap hres 4 rfl
          have z5 := cell_of_heap hres 5 rfl
          have f0 := free_of_heap hres 0
          have f1 := free_of_heap hres 1
          have f2 := free_of_heap hres 2
          have f3 := free_of_heap hres 3
          have f4 := free_of_heap hres 4
          have f5 := free_of_heap hres 5
          clear hres
          by_cases hlt3 : r3' < d.length
          case neg =>
            have hlt3' : ¬ (r3' : Int) < (d.length : Int) := by omega
            have hge3 : (d.length : Int) ≤ (r3' : Int) := by omega
            have hgd3 : decide (d.length ≤ r3') = true := decide_eq_true (by omega)
            go_wp2
            refine bodyPost_ret (v := .tuple #[.agg #[.int .i64 7, .int .i64 (at' : Nat), .int .i64 (r3' : Nat), .slice none 0 0, .slice pN cn cN, .slice pL cl cL], .bool false]) (results_cell_row_tmp (p := 6) (u := 7) (ty := 71) rfl _ _ B 71 _ (0, 0) _ rfl ((HT6.out).ret _ _ _ _ _ _) Tryz.underlying71 rfl (by kernel_rfl)) rfl (FIN.out (HT6.out) (HB6.out) (by omega) hs4 (fun h => (by cases h)) (fun q h => by obtain ⟨t, u, v, g5, g6, g7, -⟩ := HM1.out q h; obtain rfl := HB3.out.eq g5 (fun _ => by rw [g7]; rfl); exact absurd g6 hlt3))
          case pos =>
            have hlt3' : (r3' : Int) < (d.length : Int) := by omega
            have hge3 : ¬ (d.length : Int) ≤ (r3' : Int) := by omega
            have hgd3 : decide (d.length ≤ r3') = false := decide_eq_false (by omega)
            have q0 := (HB6.out.cell (p := ⟨bd, off + r3', none⟩) hbd).trans (HCL.out r3' hlt3)
            obtain ⟨c, hcc⟩ : ∃ c, d.getD r3' 0 = c := ⟨_, rfl⟩
            rw [hcc] at q0
            have HCC := Lib.hid hcc
            clear hcc
            by_cases h58 : c = 58
            case neg =>
              have e2 : (c != 58) = true := bne_iff_ne.2 h58
              have e3 : (c == 58) = false := beq_eq_false_iff_ne.2 h58
              go_wp2
              refine bodyPost_ret (v := .tuple #[.agg #[.int .i64 7, .int .i64 (at' : Nat), .int .i64 (r3' : Nat), .slice none 0 0, .slice pN cn cN, .slice pL cl cL], .bool false]) (results_cell_row_tmp (p := 6) (u := 7) (ty := 71) rfl _ _ B 71 _ (0, 0) _ rfl ((HT6.out).ret _ _ _ _ _ _) Tryz.underlying71 rfl (by kernel_rfl)) rfl (FIN.out (HT6.out) (HB6.out) (by omega) hs4 (fun h => (by cases h)) (fun q h => by obtain ⟨t, u, v, g5, g6, g7, -⟩ := HM1.out q h; obtain rfl := HB3.out.eq g5 (fun _ => by rw [g7]; rfl); exact absurd (HCC.out.symm.trans g7) h58))
            case pos =>
              subst h58
              have HM2 : Hid (∀ q, G d 3 (at' + 1) q → ∃ u v, Bl d (r3' + 1) u ∧ G d 0 u v ∧ G d 4 v q) := fun q h => by
                obtain ⟨t, u, v, g5, g6, g7, g8, g9, g10⟩ := HM1.out q h
                obtain rfl := HB3.out.eq g5 (fun _ => by rw [g7]; rfl)
                exact ⟨u, v, g8, g9, g10⟩
              clear HM1
              have hkd : d.length - (r3' + 1) < n := by omega
              have hdk : (d.length : Int) < (deep - 1) + ((r3' + 1 : Nat) : Int) := by omega
              have HVC := Lib.hid (HC.out (some ⟨bd, off, none⟩) cap (r3' + 1) (deep - 1) w6 (HD.out.below (HB6.out.mono (Nat.le_of_eq HBB.out))) hlt3 hkd hdk (by omega))
              clear hdk hkd
              go_upto_region 16 with (go_at_call 41; refine HVC.out.mono ?_; rintro e w7 ⟨kd, fr, up2, p3, l3, c3', p4, l4, c4', p5, l5, c5', ok, rfl, hu1, hu2, hu3, hu4, hk7⟩; have HU4 := Lib.hid hu4; have HK7 := Lib.hid hk7; clear hu4 hk7)
              clear c0 c1 c2 c3 c4 c5 b2 b4 b5 lt1 z0 z1 z2 z3 z4 z5 f0 f1 f2 f3 f4 f5
              clear q0
              have HT7 := HT6.out.below HK7.out
              have HB7 : Below B w w7 := HB6.out.trans (HK7.out.mono (by have := HT6.out.size; omega))
              have hx7 := (HK7.out.block T (lt_heap HX6.out)).trans HX6.out
              have hTV : T < w7.heap.size := lt_heap hx7
              have hvB : B + 2 ≤ w7.heap.size := HT7.size
              have HLO := Lib.hid (fun j hj => (HT7.ownL j hj).2)
              have HNO := Lib.hid (fun j hj => (HT7.ownN j hj).2)
              have HT8 := Lib.hid (HT7.below (Below.alloc (Below.refl _ w7) (Nat.le_refl _) (.cells #[.int .i64 kd, .int .i64 fr, .int .i64 (up2 : Nat), .slice p3 l3 c3', .slice p4 l4 c4', .slice p5 l5 c5'] 71)))
              have HB8 := Lib.hid (HB7.alloc (show B ≤ w7.heap.size by omega) (.cells #[.int .i64 kd, .int .i64 fr, .int .i64 (up2 : Nat), .slice p3 l3 c3', .slice p4 l4 c4', .slice p5 l5 c5'] 71))
              have hv8 := heap_alloc_new w7 (.cells #[.int .i64 kd, .int .i64 fr, .int .i64 (up2 : Nat), .slice p3 l3 c3', .slice p4 l4 c4', .slice p5 l5 c5'] 71)
              have hx8 := (heap_alloc_lt (w := w7) (o := (.cells #[.int .i64 kd, .int .i64 fr, .int .i64 (up2 : Nat), .slice p3 l3 c3', .slice p4 l4 c4', .slice p5 l5 c5'] 71)) hTV).trans hx7
              clear HT7 HB7 HT6 HB6 HK7 HX6 hx7
              generalize w7.alloc (.cells #[.int .i64 kd, .int .i64 fr, .int .i64 (up2 : Nat), .slice p3 l3 c3', .slice p4 l4 c4', .slice p5 l5 c5'] 71) = w8 at HT8 HB8 hv8 hx8 ⊢
              generalize w7.heap.size = V at hvB HLO HNO hTV hv8 ⊢
              have ltV : V < w8.heap.size := lt_heap hv8
              have v2 := cell_of_heap hv8 2 rfl
              have HV8 := Lib.hid hv8
              have HX8 := Lib.hid hx8
              clear hv8 hx8
              have c0 : w8.cell? ⟨B + 1, 0, none⟩ = some (.int .i64 7) := HT8.out.c 0 rfl
              have c1 : w8.cell? ⟨B + 1, 1, none⟩ = some (.int .i64 (at' : Nat)) := HT8.out.c 1 rfl
              have c2 : w8.cell? ⟨B + 1, 2, none⟩ = some (.int .i64 (r3' : Nat)) := HT8.out.c 2 rfl
              have c3 : w8.cell? ⟨B + 1, 3, none⟩ = some (.slice none 0 0) := HT8.out.c 3 rfl
              have c4 : w8.cell? ⟨B + 1, 4, none⟩ = some (.slice pN cn cN) := HT8.out.c 4 rfl
              have c5 : w8.cell? ⟨B + 1, 5, none⟩ = some (.slice pL cl cL) := HT8.out.c 5 rfl
              have b2 := HT8.out.free 2
              have b4 := HT8.out.free 4
              have b5 := HT8.out.free 5
              have lt1 : B + 1 < w8.heap.size := HT8.out.size
              obtain ⟨r0, r1', r2', r3, r4, r5, hres⟩ := HT8.out.res
              have z0 := cell_of_heap hres 0 rfl
              have z1 := cell_of_heap hres 1 rfl
              have z2 := cell_of_heap hres 2 rfl
              have z3 := cell_of_heap hres 3 rfl
              have z4 := cell_of_heap hres 4 rfl
              have z5 := cell_of_heap hres 5 rfl
              have f0 := free_of_heap hres 0
              have f1 := free_of_heap hres 1
              have f2 := free_of_heap hres 2
              have f3 := free_of_heap hres 3
              have f4 := free_of_heap hres 4
              have f5 := free_of_heap hres 5
              clear hres
              go_upto_region 17 with fail
              clear c0 c1 c2 c3 c4 c5 b2 b4 b5 lt1 z0 z1 z2 z3 z4 z5 f0 f1 f2 f3 f4 f5
              have HT9 := Lib.hid (HT8.out.setTo up2)
              have HB9 := Lib.hid (below_setN HB8.out (show B ≤ B + 1 by omega) 2 (.int .i64 (up2 : Nat)))
              have hv9 := (heap_setCell_other (w := w8) 2 (.int .i64 (up2 : Nat)) (show V ≠ B + 1 by omega)).trans HV8.out
              have hx9 := (heap_setCell_other (w := w8) 2 (.int .i64 (up2 : Nat)) (show T ≠ B + 1 by omega)).trans HX8.out
              clear v2 ltV HT8 HB8 HV8 HX8
              generalize w8.setCell ⟨B + 1, 2, none⟩ (.int .i64 (up2 : Nat)) = w9 at HT9 HB9 hv9 hx9 ⊢
              have ltV : V < w9.heap.size := lt_heap hv9
              have ltT : T < w9.heap.size := lt_heap hx9
              have t0 := cell_of_heap hx9 0 rfl
              have HV9 := Lib.hid hv9
              clear hv9 hx9
              have c0 : w9.cell? ⟨B + 1, 0, none⟩ = some (.int .i64 7) := HT9.out.c 0 rfl
              have c1 : w9.cell? ⟨B + 1, 1, none⟩ = some (.int .i64 (at' : Nat)) := HT9.out.c 1 rfl
              have c2 : w9.cell? ⟨B + 1, 2, none⟩ = some (.int .i64 (up2 : Nat)) := HT9.out.c 2 rfl
              have c3 : w9.cell? ⟨B + 1, 3, none⟩ = some (.slice none 0 0) := HT9.out.c 3 rfl
              have c4 : w9.cell? ⟨B + 1, 4, none⟩ = some (.slice pN cn cN) := HT9.out.c 4 rfl
              have c5 : w9.cell? ⟨B + 1, 5, none⟩ = some (.slice pL cl cL) := HT9.out.c 5 rfl
              have b2 := HT9.out.free 2
              have b4 := HT9.out.free 4
              have b5 := HT9.out.free 5
              have lt1 : B + 1 < w9.heap.size := HT9.out.size
              obtain ⟨r0, r1', r2', r3, r4, r5, hres⟩ := HT9.out.res
              have z0 := cell_of_heap hres 0 rfl
              have z1 := cell_of_heap hres 1 rfl
              have z2 := cell_of_heap hres 2 rfl
              have z3 := cell_of_heap hres 3 rfl
              have z4 := cell_of_heap hres 4 rfl
              have z5 := cell_of_heap hres 5 rfl
              have f0 := free_of_heap hres 0
              have f1 := free_of_heap hres 1
              have f2 := free_of_heap hres 2
              have f3 := free_of_heap hres 3
              have f4 := free_of_heap hres 4
              have f5 := free_of_heap hres 5
              clear hres
              cases ok
              case false =>
                go_wp2
                refine bodyPost_ret (v := .tuple #[.agg #[.int .i64 7, .int .i64 (at' : Nat), .int .i64 (up2 : Nat), .slice none 0 0, .slice pN cn cN, .slice pL cl cL], .bool false]) (results_cell_row_tmp (p := 6) (u := 7) (ty := 71) rfl _ _ B 71 _ (0, 0) _ rfl ((HT9.out).ret _ _ _ _ _ _) Tryz.underlying71 rfl (by kernel_rfl)) rfl (FIN.out (HT9.out) (HB9.out) (by omega) hu2 (fun h => (by cases h)) (fun q h => by obtain ⟨u, v, g8, g9, g10⟩ := HM2.out q h; have := (HU4.out v ⟨u, g8, g9⟩).1; cases this))
              case true =>
                have hru : r3' + 1 < up2 := hu3 rfl
                have HU5 : Hid (∀ q, G d 3 (at' + 1) q → G d 4 up2 q) := fun q h => by
                  obtain ⟨u, v, g8, g9, g10⟩ := HM2.out q h
                  rw [(HU4.out v ⟨u, g8, g9⟩).2]; exact g10
                obtain ⟨N2, W1, hr, x0, x1, ht6, hb6, hkeep, hsz⟩ := node_name HT9.out (by omega) (a0 := .slice ps ls cs) rfl HB9.out
                obtain ⟨p6, c6', rfl⟩ := ht6.formN
                have hv6 := (hkeep V ltV (by omega) (fun e => absurd (HNO.out V e) (Nat.lt_irrefl _))).trans HV9.out
                have HR := Lib.hid hr
                have HTa := Lib.hid ht6
                have HBa := Lib.hid hb6
                have HVa := Lib.hid hv6
                clear hr ht6 hb6 hkeep hv6 hsz hu3 HU4 HM2
                go_upto_region 20 with (at_builtin; refine Lib.wpList_append_run_sl _ rfl _ _ 42 rfl _ _ rfl rfl HR.out ?_)
                clear c0 c1 c2 c3 c4 c5 b2 b4 b5 lt1 z0 z1 z2 z3 z4 z5 f0 f1 f2 f3 f4 f5
                clear t0 x0 x1 ltV ltT HR HT9 HB9 HV9
                generalize W1.setCell ⟨B + 1, 4, none⟩ (.slice p6 (cn + 1) c6') = wb at HTa HBa HVa ⊢
                have ltV : V < wb.heap.size := lt_heap HVa.out
                have v0 := cell_of_heap HVa.out 0 rfl
                have v1 := cell_of_heap HVa.out 1 rfl
                have v2 := cell_of_heap HVa.out 2 rfl
                have v3 := cell_of_heap HVa.out 3 rfl
                have v4 := cell_of_heap HVa.out 4 rfl
                have v5 := cell_of_heap HVa.out 5 rfl
                have c0 : wb.cell? ⟨B + 1, 0, none⟩ = some (.int .i64 7) := HTa.out.c 0 rfl
                have c1 : wb.cell? ⟨B + 1, 1, none⟩ = some (.int .i64 (at' : Nat)) := HTa.out.c 1 rfl
                have c2 : wb.cell? ⟨B + 1, 2, none⟩ = some (.int .i64 (up2 : Nat)) := HTa.out.c 2 rfl
                have c3 : wb.cell? ⟨B + 1, 3, none⟩ = some (.slice none 0 0) := HTa.out.c 3 rfl
                have c4 : wb.cell? ⟨B + 1, 4, none⟩ = some (.slice p6 (cn + 1) c6') := HTa.out.c 4 rfl
                have c5 : wb.cell? ⟨B + 1, 5, none⟩ = some (.slice pL cl cL) := HTa.out.c 5 rfl
                have b2 := HTa.out.free 2
                have b4 := HTa.out.free 4
                have b5 := HTa.out.free 5
                have lt1 : B + 1 < wb.heap.size := HTa.out.size
                obtain ⟨r0, r1', r2', r3, r4, r5, hres⟩ := HTa.out.res
                have z0 := cell_of_heap hres 0 rfl
                have z1 := cell_of_heap hres 1 rfl
                have z2 := cell_of_heap hres 2 rfl
                have z3 := cell_of_heap hres 3 rfl
                have z4 := cell_of_heap hres 4 rfl
                have z5 := cell_of_heap hres 5 rfl
                have f0 := free_of_heap hres 0
                have f1 := free_of_heap hres 1
                have f2 := free_of_heap hres 2
                have f3 := free_of_heap hres 3
                have f4 := free_of_heap hres 4
                have f5 := free_of_heap hres 5
                clear hres
                obtain ⟨L2, W2, hr, x0, x1, ht6, hb6, hkeep, hsz⟩ := node_list HTa.out (by omega) (a0 := .int .i64 kd) (a1 := .int .i64 fr) (a2 := .int .i64 (up2 : Nat)) (a3 := .slice p3 l3 c3') (a4 := .slice p4 l4 c4') (a5 := .slice p5 l5 c5') (by
                  intro u hu
                  simp only [List.mem_cons, List.not_mem_nil, or_false] at hu
                  rcases hu with rfl | rfl | rfl | rfl | rfl | rfl <;> rfl) HBa.out
                obtain ⟨p2, c2', rfl⟩ := ht6.formL
                have hv6 := (hkeep V ltV (by omega) (fun e => absurd (HLO.out V e) (Nat.lt_irrefl _))).trans HVa.out
                have HR := Lib.hid hr
                have HTb := Lib.hid ht6
                have HBb := Lib.hid hb6
                have HVb := Lib.hid hv6
                clear hr ht6 hb6 hkeep hv6 hsz
                go_upto_region 21 with (at_builtin; refine Lib.wpList_append_run_sl _ rfl _ _ 69 rfl _ _ rfl rfl HR.out ?_)
                clear c0 c1 c2 c3 c4 c5 b2 b4 b5 lt1 z0 z1 z2 z3 z4 z5 f0 f1 f2 f3 f4 f5
                clear v0 v1 v2 v3 v4 v5 x0 x1 ltV HR HTa HBa HVa
                generalize W2.setCell ⟨B + 1, 5, none⟩ (.slice p2 (cl + 1) c2') = wd at HTb HBb HVb ⊢
                have ltV : V < wd.heap.size := lt_heap HVb.out
                have v2 := cell_of_heap HVb.out 2 rfl
                have c0 : wd.cell? ⟨B + 1, 0, none⟩ = some (.int .i64 7) := HTb.out.c 0 rfl
                have c1 : wd.cell? ⟨B + 1, 1, none⟩ = some (.int .i64 (at' : Nat)) := HTb.out.c 1 rfl
                have c2 : wd.cell? ⟨B + 1, 2, none⟩ = some (.int .i64 (up2 : Nat)) := HTb.out.c 2 rfl
                have c3 : wd.cell? ⟨B + 1, 3, none⟩ = some (.slice none 0 0) := HTb.out.c 3 rfl
                have c4 : wd.cell? ⟨B + 1, 4, none⟩ = some (.slice p6 (cn + 1) c6') := HTb.out.c 4 rfl
                have c5 : wd.cell? ⟨B + 1, 5, none⟩ = some (.slice p2 (cl + 1) c2') := HTb.out.c 5 rfl
                have b2 := HTb.out.free 2
                have b4 := HTb.out.free 4
                have b5 := HTb.out.free 5
                have lt1 : B + 1 < wd.heap.size := HTb.out.size
                obtain ⟨r0, r1', r2', r3, r4, r5, hres⟩ := HTb.out.res
                have z0 := cell_of_heap hres 0 rfl
                have z1 := cell_of_heap hres 1 rfl
                have z2 := cell_of_heap hres 2 rfl
                have z3 := cell_of_heap hres 3 rfl
                have z4 := cell_of_heap hres 4 rfl
                have z5 := cell_of_heap hres 5 rfl
                have f0 := free_of_heap hres 0
                have f1 := free_of_heap hres 1
                have f2 := free_of_heap hres 2
                have f3 := free_of_heap hres 3
                have f4 := free_of_heap hres 4
                have f5 := free_of_heap hres 5
                clear hres
                go_upto_region 23 with (go_at_call 42; refine (blanks_any (at' := up2) (HD.out.below (HBb.out.mono (Nat.le_of_eq HBB.out))) hl (by omega)).mono ?_; rintro e w7 ⟨r2, rfl, hb2, rfl⟩; have HB2 := Lib.hid hb2; have hs5 := hb2.1.1; have hs6 := hb2.1.2.1; clear hb2)
                clear c0 c1 c2 c3 c4 c5 b2 b4 b5 lt1 z0 z1 z2 z3 z4 z5 f0 f1 f2 f3 f4 f5
                clear v2 ltV
                have HTc := Lib.hid (HTb.out.setTo r2)
                have HBc := Lib.hid (below_setN HBb.out (show B ≤ B + 1 by omega) 2 (.int .i64 (r2 : Nat)))
                clear HTb HBb HVb
                generalize wd.setCell ⟨B + 1, 2, none⟩ (.int .i64 (r2 : Nat)) = we at HTc HBc ⊢
                have c0 : we.cell? ⟨B + 1, 0, none⟩ = some (.int .i64 7) := HTc.out.c 0 rfl
                have c1 : we.cell? ⟨B + 1, 1, none⟩ = some (.int .i64 (at' : Nat)) := HTc.out.c 1 rfl
                have c2 : we.cell? ⟨B + 1, 2, none⟩ = some (.int .i64 (r2 : Nat)) := HTc.out.c 2 rfl
                have c3 : we.cell? ⟨B + 1, 3, none⟩ = some (.slice none 0 0) := HTc.out.c 3 rfl
                have c4 : we.cell? ⟨B + 1, 4, none⟩ = some (.slice p6 (cn + 1) c6') := HTc.out.c 4 rfl
                have c5 : we.cell? ⟨B + 1, 5, none⟩ = some (.slice p2 (cl + 1) c2') := HTc.out.c 5 rfl
                have b2 := HTc.out.free 2
                have b4 := HTc.out.free 4
                have b5 := HTc.out.free 5
                have lt1 : B + 1 < we.heap.size := HTc.out.size
                obtain ⟨r0, r1', r2', r3, r4, r5, hres⟩ := HTc.out.res
                have z0 := cell_of_heap hres 0 rfl
                have z1 := cell_of_heap hres 1 rfl
                have z2 := cell_of_heap hres 2 rfl
                have z3 := cell_of_heap hres 3 rfl
                have z4 := cell_of_heap hres 4 rfl
                have z5 := cell_of_heap hres 5 rfl
                have f0 := free_of_heap hres 0
                have f1 := free_of_heap hres 1
                have f2 := free_of_heap hres 2
                have f3 := free_of_heap hres 3
                have f4 := free_of_heap hres 4
                have f5 := free_of_heap hres 5
                clear hres
                by_cases hlt : r2 < d.length
                case neg =>
                  have hlt' : ¬ (r2 : Int) < (d.length : Int) := by omega
                  have hge : (d.length : Int) ≤ (r2 : Int) := by omega
                  have hgd : decide (d.length ≤ r2) = true := decide_eq_true (by omega)
                  go_wp2
                  refine bodyPost_ret (v := .tuple #[.agg #[.int .i64 7, .int .i64 (at' : Nat), .int .i64 (r2 : Nat), .slice none 0 0, .slice p6 (cn + 1) c6', .slice p2 (cl + 1) c2'], .bool false]) (results_cell_row_tmp (p := 6) (u := 7) (ty := 71) rfl _ _ B 71 _ (0, 0) _ rfl ((HTc.out).ret _ _ _ _ _ _) Tryz.underlying71 rfl (by kernel_rfl)) rfl (FIN.out (HTc.out) (HBc.out) (by omega) hs6 (fun h => (by cases h)) (fun q h => absurd (obj_next (HU5.out q h) HB2.out).1 hlt))
                case pos =>
                  have hlt' : (r2 : Int) < (d.length : Int) := by omega
                  have hge : ¬ (d.length : Int) ≤ (r2 : Int) := by omega
                  have hgd : decide (d.length ≤ r2) = false := decide_eq_false (by omega)
                  have q0 := (HBc.out.cell (p := ⟨bd, off + r2, none⟩) hbd).trans (HCL.out r2 hlt)
                  clear HCC
                  obtain ⟨c, hcc⟩ : ∃ c, d.getD r2 0 = c := ⟨_, rfl⟩
                  rw [hcc] at q0
                  have HCC := Lib.hid hcc
                  clear hcc
                  by_cases h125 : c = 125
                  case pos =>
                    subst h125
                    go_wp2
                    refine bodyPost_ret (v := .tuple #[.agg #[.int .i64 7, .int .i64 (at' : Nat), .int .i64 (r2 + 1 : Nat), .slice none 0 0, .slice p6 (cn + 1) c6', .slice p2 (cl + 1) c2'], .bool true]) (results_cell_row_tmp (p := 6) (u := 7) (ty := 71) rfl _ _ B 71 _ (0, 0) _ rfl ((HTc.out.setTo (r2 + 1)).ret _ _ _ _ _ _) Tryz.underlying71 rfl (by kernel_rfl)) rfl (FIN.out (HTc.out.setTo (r2 + 1)) (below_setN HBc.out (show B ≤ B + 1 by omega) 2 _) (by omega) hlt (fun _ => by omega) (fun q h => ⟨rfl, by rcases (obj_next (HU5.out q h) HB2.out).2 with ⟨-, h1⟩ | ⟨h1, -⟩; exact h1.symm; rw [HCC.out] at h1; cases h1⟩))
                  case neg =>
                    have e1 : (c == 125) = false := beq_eq_false_iff_ne.2 h125
                    by_cases h44 : c = 44
                    case neg =>
                      have e2 : (c != 44) = true := bne_iff_ne.2 h44
                      have e3 : (c == 44) = false := beq_eq_false_iff_ne.2 h44
                      go_wp2
                      refine bodyPost_ret (v := .tuple #[.agg #[.int .i64 7, .int .i64 (at' : Nat), .int .i64 (r2 : Nat), .slice none 0 0, .slice p6 (cn + 1) c6', .slice p2 (cl + 1) c2'], .bool false]) (results_cell_row_tmp (p := 6) (u := 7) (ty := 71) rfl _ _ B 71 _ (0, 0) _ rfl ((HTc.out).ret _ _ _ _ _ _) Tryz.underlying71 rfl (by kernel_rfl)) rfl (FIN.out (HTc.out) (HBc.out) (by omega) hs6 (fun h => (by cases h)) (fun q h => by rcases (obj_next (HU5.out q h) HB2.out).2 with ⟨h1, -⟩ | ⟨h1, -⟩; exact absurd (HCC.out.symm.trans h1) h125; exact absurd (HCC.out.symm.trans h1) h44))
                    case pos =>
                      subst h44
                      clear h125
                      go_wp2
                      go_roundg (gk - (r2 + 1 - k))
                      case measure => omega
                      case rel =>
                        refine ⟨r2 + 1, r2, cn + 1, cl + 1, _, _, by omega, by go_num, by omega, by omega, by omega, by omega, HTc.out, HBc.out, fun q h => ?_⟩
                        rcases (obj_next (HU5.out q h) HB2.out).2 with ⟨h1, -⟩ | ⟨-, h1⟩
                        · rw [HCC.out] at h1; cases h1
                        · exact h1
end Go.Proofs.YtaecbclonmhbcaaGreatDoor
