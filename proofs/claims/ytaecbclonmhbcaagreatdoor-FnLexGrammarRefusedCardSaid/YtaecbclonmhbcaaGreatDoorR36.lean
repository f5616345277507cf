/- The reference's array. -/
import Derived.Test.YtaecbclonmhbcaaGreatDoorR35
import Derived.Test.YtaecbclonmhbcaaGreatDoorR25
set_option linter.unusedVariables false
set_option linter.unusedSimpArgs false
namespace Go.Proofs.YtaecbclonmhbcaaGreatDoor
open Go.RowKit
theorem G.nbl {d : List Int} {p q : Nat} (h : G d 0 p q) : isBl (d.getD p 0) = false := by
  cases h with
  | word hp hw => rcases hw with ⟨a, -⟩ | ⟨a, -⟩ | ⟨a, -⟩ <;> rw [a] <;> rfl
  | str _ a _ => rw [a]; rfl
  | arr _ a _ => rw [a]; rfl
  | obj _ a _ => rw [a]; rfl
theorem arr_open {d : List Int} {p q r1 : Nat} (h : G d 1 p q) (hb : BlTo d p r1) : r1 < d.length ∧ ((d.getD r1 0 = 93 ∧ q = r1 + 1) ∨ (d.getD r1 0 ≠ 93 ∧ ∃ r s, Bl d r1 r ∧ G d 0 r s ∧ G d 2 s q)) := by
  cases h with
  | aEnd h1 h2 h3 =>
    obtain rfl := hb.eq h1 (fun _ => by rw [h3]; rfl)
    exact ⟨h2, .inl ⟨h3, rfl⟩⟩
  | aFst h =>
    cases h with
    | aVal h1 h2 h3 =>
      obtain rfl := hb.eq h1 (fun _ => h2.nbl)
      have hlt := h2.lt
      refine ⟨by omega, .inr ⟨fun e => ?_, _, _, Bl.refl (by omega), h2, h3⟩⟩
      have := h2.head
      rw [e] at this
      cases this
theorem arr_next {d : List Int} {p q r1 : Nat} (h : G d 2 p q) (hb : BlTo d p r1) : r1 < d.length ∧ ((d.getD r1 0 = 93 ∧ q = r1 + 1) ∨ (d.getD r1 0 = 44 ∧ ∃ r s, Bl d (r1 + 1) r ∧ G d 0 r s ∧ G d 2 s q)) := by
  cases h with
  | aStop h1 h2 h3 =>
    obtain rfl := hb.eq h1 (fun _ => by rw [h3]; rfl)
    exact ⟨h2, .inl ⟨h3, rfl⟩⟩
  | aMore h1 h2 h3 h4 =>
    obtain rfl := hb.eq h1 (fun _ => by rw [h3]; rfl)
    cases h4 with
    | aVal g1 g2 g3 => exact ⟨h2, .inr ⟨h3, _, _, g1, g2, g3⟩⟩
def ArI (d : List Int) (at' B : Nat) (w : World) (gk : Nat) (v1 : Value) (wr : World) : Prop :=
  ∃ (k up cl : Nat) (L : Value), gk + k = d.length ∧ v1 = .int .i64 k ∧ at' < k ∧ k ≤ d.length ∧ cl ≤ k ∧ NodeAt wr B 6 at' up (.slice none 0 0) (.slice none 0 0) L 0 cl ∧ Below B w wr ∧ (∀ q, G d 1 (at' + 1) q → ∃ r s, Bl d k r ∧ G d 0 r s ∧ G d 2 s q)
set_option maxHeartbeats 8000000 in
set_option maxRecDepth 100000 in
theorem array_spec {n : Nat} {p : Option Addr} {cap at' : Nat} {deep : Int} {d : List Int} {w : World} (hC : ValC d n) (hd : Bs w p d) (hby : Bytes d) (hl : d.length ≤ 100000) (ha : at' < d.length) (hn : d.length - at' ≤ n) (hdp : (d.length : Int) < deep + at') (hdp2 : deep ≤ 1073741824) :
    Calls Tryz.prog 98 #[.slice p d.length cap, .int .i64 at', .int .i64 deep] w (NodeQ d at' (fun q => G d 1 (at' + 1) q) w) := by
  obtain ⟨B, hB⟩ : ∃ B, w.heap.size = B := ⟨_, rfl⟩
  have HC := Lib.hid hC
  have HD := Lib.hid hd
  have HBY := Lib.hid hby
  have hd0 : 1 ≤ deep := by omega
  have hbelow : Below B w ((w.alloc (.cells #[.int .i64 0, .int .i64 0, .int .i64 0, .slice none 0 0, .slice none 0 0, .slice none 0 0] 71)).alloc (.cells #[.int .i64 6, .int .i64 at', .int .i64 0, .slice none 0 0, .slice none 0 0, .slice none 0 0] 71)) := by
    rw [← hB]
    exact ((Below.refl _ w).alloc (Nat.le_refl _) _).alloc (by simp) _
  have hnode : NodeAt ((w.alloc (.cells #[.int .i64 0, .int .i64 0, .int .i64 0, .slice none 0 0, .slice none 0 0, .slice none 0 0] 71)).alloc (.cells #[.int .i64 6, .int .i64 at', .int .i64 0, .slice none 0 0, .slice none 0 0, .slice none 0 0] 71)) B 6 at' 0 (.slice none 0 0) (.slice none 0 0) (.slice none 0 0) 0 0 := by
    have hs : (w.alloc (.cells #[.int .i64 0, .int .i64 0, .int .i64 0, .slice none 0 0, .slice none 0 0, .slice none 0 0] 71)).heap.size = B + 1 := by rw [← hB]; simp
    refine ⟨⟨.int .i64 0, .int .i64 0, .int .i64 0, .slice none 0 0, .slice none 0 0, .slice none 0 0, ?_⟩, ?_, ⟨[], World.ownsRow_nil _ _ _ _⟩, ⟨[], World.ownsRow_nil _ _ _ _⟩, fun j hj => by cases hj⟩
    · rw [heap_alloc_lt (by omega), ← hB]; exact heap_alloc_new w _
    · rw [← hs]; exact heap_alloc_new _ _
  have HB0 := Lib.hid hbelow
  have HT0 := Lib.hid hnode
  have HBB := Lib.hid hB
  have FIN : Hid (∀ {W : World} {p3 p4 p5 : Option Addr} {l3 c3 l4 c4 l5 c5 cn cl up : Nat} {kd : Int} {ok : Bool}, NodeAt W B kd at' up (.slice p3 l3 c3) (.slice p4 l4 c4) (.slice p5 l5 c5) cn cl → Below B w W → at' ≤ up → up ≤ d.length → (ok = true → at' < up) → (∀ q', G d 1 (at' + 1) q' → ok = true ∧ up = q') →
      NodeQ d at' (fun q => G d 1 (at' + 1) q) w (.returned (.tuple #[.agg #[.int .i64 kd, .int .i64 (at' : Nat), .int .i64 (up : Nat), .slice p3 l3 c3, .slice p4 l4 c4, .slice p5 l5 c5], .bool ok])) ((((((W.setCell ⟨B, 0, none⟩ (.int .i64 kd)).setCell ⟨B, 1, none⟩ (.int .i64 (at' : Nat))).setCell ⟨B, 2, none⟩ (.int .i64 (up : Nat))).setCell ⟨B, 3, none⟩ (.slice p3 l3 c3)).setCell ⟨B, 4, none⟩ (.slice p4 l4 c4)).setCell ⟨B, 5, none⟩ (.slice p5 l5 c5))) := by
    intro W p3 p4 p5 l3 c3 l4 c4 l5 c5 cn cl up kd ok h1 h2 h3 h4 h5 h6
    exact ⟨_, _, _, _, _, _, _, _, _, _, _, _, _, rfl, h3, h4, h5, h6, (below_set6 h2 _ _ _ _ _ _).mono (Nat.le_of_eq hB)⟩
  clear hC hd hby hbelow hnode
  go_enter Tryz.func98, Tryz.ntmps98
  go_upto_region 2 with fail
  generalize (w.alloc (.cells #[.int .i64 0, .int .i64 0, .int .i64 0, .slice none 0 0, .slice none 0 0, .slice none 0 0] 71)).alloc (.cells #[.int .i64 6, .int .i64 at', .int .i64 0, .slice none 0 0, .slice none 0 0, .slice none 0 0] 71) = wa at HB0 HT0 ⊢
  have c0 : wa.cell? ⟨B + 1, 0, none⟩ = some (.int .i64 6) := HT0.out.c 0 rfl
  have c1 : wa.cell? ⟨B + 1, 1, none⟩ = some (.int .i64 (at' : Nat)) := HT0.out.c 1 rfl
  have c2 : wa.cell? ⟨B + 1, 2, none⟩ = some (.int .i64 (0 : Nat)) := HT0.out.c 2 rfl
  have c3 : wa.cell? ⟨B + 1, 3, none⟩ = some (.slice none 0 0) := HT0.out.c 3 rfl
  have c4 : wa.cell? ⟨B + 1, 4, none⟩ = some (.slice none 0 0) := HT0.out.c 4 rfl
  have c5 : wa.cell? ⟨B + 1, 5, none⟩ = some (.slice none 0 0) := HT0.out.c 5 rfl
  have b2 := HT0.out.free 2
  have b5 := HT0.out.free 5
  have lt1 : B + 1 < wa.heap.size := HT0.out.size
  obtain ⟨r0, r1', r2', r3, r4, r5, hres⟩ := HT0.out.res
  have z0 := cell_of_heap hres 0 rfl
  have z1 := cell_of_heap hres 1 rfl
  have z2 := cell_of_heap hres 2 rfl
  have z3 := cell_of_heap hres 3 rfl
  have z4 := cell_of_heap hres 4 rfl
  have z5 := cell_of_heap hres 5 rfl
  have f0 := free_of_heap hres 0
  have f1 := free_of_heap hres 1
  have f2 := free_of_heap hres 2
  have f3 := free_of_heap hres 3
  have f4 := free_of_heap hres 4
  have f5 := free_of_heap hres 5
  clear hres
  go_upto_region 3 with (go_at_call 42; refine (blanks_any (at' := at' + 1) (HD.out.below (HB0.out.mono (Nat.le_of_eq HBB.out))) hl (by omega)).mono ?_; rintro e w3 ⟨r1, rfl, hb1, rfl⟩; have HB1 := Lib.hid hb1; have hr1 := hb1.1.1; have hr2 := hb1.1.2.1; clear hb1)
  obtain ⟨bd, off, rfl, hbd, hc⟩ := HD.out (by omega)
  rw [HBB.out] at hbd
  have HCL := Lib.hid hc
  clear hc
  have HKW : Hid (∀ j, Below wa.heap.size wa (wa.drewN j)) := fun j => ⟨rfl, rfl, rfl, Nat.le_refl _, fun _ _ => rfl⟩
  have HKR : Hid (Below wa.heap.size wa wa) := Below.refl _ wa
  go_cut [27] from 17 to 26 (fun a27 wx => ∃ b : Bool, a27 = .bool b ∧ (b = true ↔ r1 < d.length ∧ d.getD r1 0 = 93) ∧ Below wa.heap.size wa wx)
  case first =>
    by_cases hlt : r1 < d.length
    case neg =>
      have hlt' : ¬ (r1 : Int) < (d.length : Int) := by omega
      go_wp2
      all_goals
        go_meet
        refine ⟨false, rfl, ⟨fun h => (by cases h), fun h => absurd h.1 hlt⟩, ?_⟩
        first | exact HKR.out | exact HKW.out _
    case pos =>
      have hlt' : (r1 : Int) < (d.length : Int) := by omega
      have q0 := (HB0.out.cell (p := ⟨bd, off + r1, none⟩) hbd).trans (HCL.out r1 hlt)
      obtain ⟨c, hcc⟩ : ∃ c, d.getD r1 0 = c := ⟨_, rfl⟩
      rw [hcc] at q0
      have HCC := Lib.hid hcc
      clear hcc
      by_cases h93 : c = 93
      case neg =>
        have e1 : (c == 93) = false := beq_eq_false_iff_ne.2 h93
        go_wp2
        all_goals
          go_meet
          refine ⟨false, rfl, ⟨fun h => (by cases h), fun h => absurd (HCC.out.symm.trans h.2) h93⟩, ?_⟩
          first | exact HKR.out | exact HKW.out _
      case pos =>
        subst h93
        go_wp2
        all_goals
          go_meet
          refine ⟨true, rfl, ⟨fun _ => ⟨hlt, HCC.out⟩, fun _ => rfl⟩, ?_⟩
          first | exact HKR.out | exact HKW.out _
  case rest =>
    obtain ⟨b, rfl, hbt, hkc⟩ := hcut
    clear c0 c1 c2 c3 c4 c5 b2 b5 lt1 z0 z1 z2 z3 z4 z5 f0 f1 f2 f3 f4 f5
    have HBT := Lib.hid hbt
    have HT1 := Lib.hid (HT0.out.below hkc)
    have HBx : Hid (Below B w wc) := HB0.out.trans (hkc.mono (by have := HT0.out.size; omega))
    clear hbt hkc HT0 HB0 HKW HKR
    have c0 : wc.cell? ⟨B + 1, 0, none⟩ = some (.int .i64 6) := HT1.out.c 0 rfl
    have c1 : wc.cell? ⟨B + 1, 1, none⟩ = some (.int .i64 (at' : Nat)) := HT1.out.c 1 rfl
    have c2 : wc.cell? ⟨B + 1, 2, none⟩ = some (.int .i64 (0 : Nat)) := HT1.out.c 2 rfl
    have c3 : wc.cell? ⟨B + 1, 3, none⟩ = some (.slice none 0 0) := HT1.out.c 3 rfl
    have c4 : wc.cell? ⟨B + 1, 4, none⟩ = some (.slice none 0 0) := HT1.out.c 4 rfl
    have c5 : wc.cell? ⟨B + 1, 5, none⟩ = some (.slice none 0 0) := HT1.out.c 5 rfl
    have b2 := HT1.out.free 2
    have b5 := HT1.out.free 5
    have lt1 : B + 1 < wc.heap.size := HT1.out.size
    obtain ⟨r0, r1', r2', r3, r4, r5, hres⟩ := HT1.out.res
    have z0 := cell_of_heap hres 0 rfl
    have z1 := cell_of_heap hres 1 rfl
    have z2 := cell_of_heap hres 2 rfl
    have z3 := cell_of_heap hres 3 rfl
    have z4 := cell_of_heap hres 4 rfl
    have z5 := cell_of_heap hres 5 rfl
    have f0 := free_of_heap hres 0
    have f1 := free_of_heap hres 1
    have f2 := free_of_heap hres 2
    have f3 := free_of_heap hres 3
    have f4 := free_of_heap hres 4
    have f5 := free_of_heap hres 5
    clear hres
    cases b
    case true =>
      obtain ⟨hlt, h93⟩ := HBT.out.1 rfl
      have H93 := Lib.hid h93
      clear h93
      go_wp2
      refine bodyPost_ret (v := .tuple #[.agg #[.int .i64 6, .int .i64 (at' : Nat), .int .i64 (r1 + 1 : Nat), .slice none 0 0, .slice none 0 0, .slice none 0 0], .bool true]) (results_cell_row_tmp (p := 6) (u := 7) (ty := 71) rfl _ _ B 71 _ (0, 0) _ rfl ((HT1.out.setTo (r1 + 1)).ret _ _ _ _ _ _) Tryz.underlying71 rfl (by kernel_rfl)) rfl (FIN.out (HT1.out.setTo (r1 + 1)) (below_setN HBx.out (show B ≤ B + 1 by omega) 2 _) (by omega) hlt (fun _ => by omega) (fun q h => ⟨rfl, by rcases (arr_open h HB1.out).2 with ⟨-, h1⟩ | ⟨h1, -⟩; exact h1.symm; exact absurd H93.out h1⟩))

    case false =>
      have HI : Hid (ArI d at' B w (d.length - r1) (.int .i64 (r1 : Nat)) wc) := ⟨r1, 0, 0, .slice none 0 0, by omega, rfl, by omega, hr2, by omega, HT1.out, HBx.out, fun q h => by
        rcases (arr_open h HB1.out).2 with ⟨h1, -⟩ | ⟨-, h1⟩
        · have := HBT.out.2 ⟨(arr_open h HB1.out).1, h1⟩
          cases this
        · exact h1⟩
      clear HBT HT1 HBx
      go_wp2
      clear c0 c1 c2 c3 c4 c5 b2 b5 lt1 z0 z1 z2 z3 z4 z5 f0 f1 f2 f3 f4 f5
      go_loopg [1] (d.length - r1) (fun gk v1 wr => ArI d at' B w gk v1 wr)
      case atStart => first | exact HI.out | (have := HI.out; simpa using this)
      case round =>
        obtain ⟨k, up, cl, L, hgk, rfl, hak, hk, hcl, ht, hb, hg⟩ := hrel
        obtain ⟨pL, cL, rfl⟩ := ht.formL
        have HTr := Lib.hid ht
        have HBr := Lib.hid hb
        have HG := Lib.hid hg
        clear ht hb hg
        have hkd : d.length - k < n := by omega
        have hdk : (d.length : Int) < (deep - 1) + (k : Int) := by omega
        have HDr := Lib.hid (HD.out.below (HBr.out.mono (Nat.le_of_eq HBB.out)))
        have HVC := Lib.hid (HC.out (some ⟨bd, off, none⟩) cap k (deep - 1) wr HDr.out hk hkd hdk (by omega))
        clear hdk hkd
        have c0 : wr.cell? ⟨B + 1, 0, none⟩ = some (.int .i64 6) := HTr.out.c 0 rfl
        have c1 : wr.cell? ⟨B + 1, 1, none⟩ = some (.int .i64 (at' : Nat)) := HTr.out.c 1 rfl
        have c2 : wr.cell? ⟨B + 1, 2, none⟩ = some (.int .i64 (up : Nat)) := HTr.out.c 2 rfl
        have c3 : wr.cell? ⟨B + 1, 3, none⟩ = some (.slice none 0 0) := HTr.out.c 3 rfl
        have c4 : wr.cell? ⟨B + 1, 4, none⟩ = some (.slice none 0 0) := HTr.out.c 4 rfl
        have c5 : wr.cell? ⟨B + 1, 5, none⟩ = some (.slice pL cl cL) := HTr.out.c 5 rfl
        have b2 := HTr.out.free 2
        have b5 := HTr.out.free 5
        have lt1 : B + 1 < wr.heap.size := HTr.out.size
        obtain ⟨r0, r1', r2', r3, r4, r5, hres⟩ := HTr.out.res
        have z0 := cell_of_heap hres 0 rfl
        have z1 := cell_of_heap hres 1 rfl
        have z2 := cell_of_heap hres 2 rfl
        have z3 := cell_of_heap hres 3 rfl
        have z4 := cell_of_heap hres 4 rfl
        have z5 := cell_of_heap hres 5 rfl
        have f0 := free_of_heap hres 0
        have f1 := free_of_heap hres 1
        have f2 := free_of_heap hres 2
        have f3 := free_of_heap hres 3
        have f4 := free_of_heap hres 4
        have f5 := free_of_heap hres 5
        clear hres
        go_upto_region 7 with (go_at_call 41; refine HVC.out.mono ?_; rintro e w3 ⟨kd, fr, up2, p3, l3, c3', p4, l4, c4', p5, l5, c5', ok, rfl, hu1, hu2, hu3, hu4, hk3⟩; have HU4 := Lib.hid hu4; have HK3 := Lib.hid hk3; clear hu4 hk3)
        clear c0 c1 c2 c3 c4 c5 b2 b5 lt1 z0 z1 z2 z3 z4 z5 f0 f1 f2 f3 f4 f5
        have HT3 := HTr.out.below HK3.out
        have HB3 : Below B w w3 := HBr.out.trans (HK3.out.mono (by have := HTr.out.size; omega))
        have hvB : B + 2 ≤ w3.heap.size := HT3.size
        have HLO := Lib.hid (fun j hj => (HT3.ownL j hj).2)
        have HT4 := Lib.hid (HT3.below (Below.alloc (Below.refl _ w3) (Nat.le_refl _) (.cells #[.int .i64 kd, .int .i64 fr, .int .i64 (up2 : Nat), .slice p3 l3 c3', .slice p4 l4 c4', .slice p5 l5 c5'] 71)))
        have HB4 := Lib.hid (HB3.alloc (show B ≤ w3.heap.size by omega) (.cells #[.int .i64 kd, .int .i64 fr, .int .i64 (up2 : Nat), .slice p3 l3 c3', .slice p4 l4 c4', .slice p5 l5 c5'] 71))
        have hv4 := heap_alloc_new w3 (.cells #[.int .i64 kd, .int .i64 fr, .int .i64 (up2 : Nat), .slice p3 l3 c3', .slice p4 l4 c4', .slice p5 l5 c5'] 71)
        clear HT3 HB3 HTr HBr HK3
        generalize w3.alloc (.cells #[.int .i64 kd, .int .i64 fr, .int .i64 (up2 : Nat), .slice p3 l3 c3', .slice p4 l4 c4', .slice p5 l5 c5'] 71) = w4 at HT4 HB4 hv4 ⊢
        generalize w3.heap.size = V at hvB HLO hv4 ⊢
        have ltV : V < w4.heap.size := lt_heap hv4
        have HV4 := Lib.hid hv4
        have v2 := cell_of_heap hv4 2 rfl
        clear hv4
        have c0 : w4.cell? ⟨B + 1, 0, none⟩ = some (.int .i64 6) := HT4.out.c 0 rfl
        have c1 : w4.cell? ⟨B + 1, 1, none⟩ = some (.int .i64 (at' : Nat)) := HT4.out.c 1 rfl
        have c2 : w4.cell? ⟨B + 1, 2, none⟩ = some (.int .i64 (up : Nat)) := HT4.out.c 2 rfl
        have c3 : w4.cell? ⟨B + 1, 3, none⟩ = some (.slice none 0 0) := HT4.out.c 3 rfl
        have c4 : w4.cell? ⟨B + 1, 4, none⟩ = some (.slice none 0 0) := HT4.out.c 4 rfl
        have c5 : w4.cell? ⟨B + 1, 5, none⟩ = some (.slice pL cl cL) := HT4.out.c 5 rfl
        have b2 := HT4.out.free 2
        have b5 := HT4.out.free 5
        have lt1 : B + 1 < w4.heap.size := HT4.out.size
        obtain ⟨r0, r1', r2', r3, r4, r5, hres⟩ := HT4.out.res
        have z0 := cell_of_heap hres 0 rfl
        have z1 := cell_of_heap hres 1 rfl
        have z2 := cell_of_heap hres 2 rfl
        have z3 := cell_of_heap hres 3 rfl
        have z4 := cell_of_heap hres 4 rfl
        have z5 := cell_of_heap hres 5 rfl
        have f0 := free_of_heap hres 0
        have f1 := free_of_heap hres 1
        have f2 := free_of_heap hres 2
        have f3 := free_of_heap hres 3
        have f4 := free_of_heap hres 4
        have f5 := free_of_heap hres 5
        clear hres
        go_upto_region 8 with fail
        clear c0 c1 c2 c3 c4 c5 b2 b5 lt1 z0 z1 z2 z3 z4 z5 f0 f1 f2 f3 f4 f5
        have HT5 := Lib.hid (HT4.out.setTo up2)
        have HB5 := Lib.hid (below_setN HB4.out (show B ≤ B + 1 by omega) 2 (.int .i64 (up2 : Nat)))
        have hv5 := (heap_setCell_other (w := w4) 2 (.int .i64 (up2 : Nat)) (show V ≠ B + 1 by omega)).trans HV4.out
        clear v2 ltV HT4 HB4 HV4
        generalize w4.setCell ⟨B + 1, 2, none⟩ (.int .i64 (up2 : Nat)) = w5 at HT5 HB5 hv5 ⊢
        have ltV : V < w5.heap.size := lt_heap hv5
        have v0 := cell_of_heap hv5 0 rfl
        have v1 := cell_of_heap hv5 1 rfl
        have v2 := cell_of_heap hv5 2 rfl
        have v3 := cell_of_heap hv5 3 rfl
        have v4 := cell_of_heap hv5 4 rfl
        have v5 := cell_of_heap hv5 5 rfl
        have HV5 := Lib.hid hv5
        clear hv5
        have c0 : w5.cell? ⟨B + 1, 0, none⟩ = some (.int .i64 6) := HT5.out.c 0 rfl
        have c1 : w5.cell? ⟨B + 1, 1, none⟩ = some (.int .i64 (at' : Nat)) := HT5.out.c 1 rfl
        have c2 : w5.cell? ⟨B + 1, 2, none⟩ = some (.int .i64 (up2 : Nat)) := HT5.out.c 2 rfl
        have c3 : w5.cell? ⟨B + 1, 3, none⟩ = some (.slice none 0 0) := HT5.out.c 3 rfl
        have c4 : w5.cell? ⟨B + 1, 4, none⟩ = some (.slice none 0 0) := HT5.out.c 4 rfl
        have c5 : w5.cell? ⟨B + 1, 5, none⟩ = some (.slice pL cl cL) := HT5.out.c 5 rfl
        have b2 := HT5.out.free 2
        have b5 := HT5.out.free 5
        have lt1 : B + 1 < w5.heap.size := HT5.out.size
        obtain ⟨r0, r1', r2', r3, r4, r5, hres⟩ := HT5.out.res
        have z0 := cell_of_heap hres 0 rfl
        have z1 := cell_of_heap hres 1 rfl
        have z2 := cell_of_heap hres 2 rfl
        have z3 := cell_of_heap hres 3 rfl
        have z4 := cell_of_heap hres 4 rfl
        have z5 := cell_of_heap hres 5 rfl
        have f0 := free_of_heap hres 0
        have f1 := free_of_heap hres 1
        have f2 := free_of_heap hres 2
        have f3 := free_of_heap hres 3
        have f4 := free_of_heap hres 4
        have f5 := free_of_heap hres 5
        clear hres
        cases ok
        case false =>
          go_wp2
          refine bodyPost_ret (v := .tuple #[.agg #[.int .i64 6, .int .i64 (at' : Nat), .int .i64 (up2 : Nat), .slice none 0 0, .slice none 0 0, .slice pL cl cL], .bool false]) (results_cell_row_tmp (p := 6) (u := 7) (ty := 71) rfl _ _ B 71 _ (0, 0) _ rfl ((HT5.out).ret _ _ _ _ _ _) Tryz.underlying71 rfl (by kernel_rfl)) rfl (FIN.out (HT5.out) (HB5.out) (by omega) hu2 (fun h => (by cases h)) (fun q h => by obtain ⟨r, s, g1, g2, g3⟩ := HG.out q h; have := (HU4.out s ⟨r, g1, g2⟩).1; cases this))
        case true =>
          have hku : k < up2 := hu3 rfl
          have HU5 : Hid (∀ q, G d 1 (at' + 1) q → G d 2 up2 q) := fun q h => by
            obtain ⟨r, s, g1, g2, g3⟩ := HG.out q h
            rw [(HU4.out s ⟨r, g1, g2⟩).2]; exact g3
          obtain ⟨L2, W1, hr, x0, x1, ht6, hb6, hkeep, hsz⟩ := node_list HT5.out (by omega) (a0 := .int .i64 kd) (a1 := .int .i64 fr) (a2 := .int .i64 (up2 : Nat)) (a3 := .slice p3 l3 c3') (a4 := .slice p4 l4 c4') (a5 := .slice p5 l5 c5') (by
            intro u hu
            simp only [List.mem_cons, List.not_mem_nil, or_false] at hu
            rcases hu with rfl | rfl | rfl | rfl | rfl | rfl <;> rfl) HB5.out
          obtain ⟨p2, c2', rfl⟩ := ht6.formL
          have hv6 := (hkeep V ltV (by omega) (fun e => absurd (HLO.out V e) (Nat.lt_irrefl _))).trans HV5.out
          have HR := Lib.hid hr
          have HT6 := Lib.hid ht6
          have HB6 := Lib.hid hb6
          have HV6 := Lib.hid hv6
          clear hr ht6 hb6 hkeep hv6 hsz hu3 HU4 HG
          go_upto_region 11 with (at_builtin; refine Lib.wpList_append_run_sl _ rfl _ _ 69 rfl _ _ rfl rfl HR.out ?_)
          clear c0 c1 c2 c3 c4 c5 b2 b5 lt1 z0 z1 z2 z3 z4 z5 f0 f1 f2 f3 f4 f5
          clear v0 v1 v2 v3 v4 v5 x0 x1 ltV HR HT5 HB5 HV5
          generalize W1.setCell ⟨B + 1, 5, none⟩ (.slice p2 (cl + 1) c2') = w6 at HT6 HB6 HV6 ⊢
          have ltV : V < w6.heap.size := lt_heap HV6.out
          have v2 := cell_of_heap HV6.out 2 rfl
          have c0 : w6.cell? ⟨B + 1, 0, none⟩ = some (.int .i64 6) := HT6.out.c 0 rfl
          have c1 : w6.cell? ⟨B + 1, 1, none⟩ = some (.int .i64 (at' : Nat)) := HT6.out.c 1 rfl
          have c2 : w6.cell? ⟨B + 1, 2, none⟩ = some (.int .i64 (up2 : Nat)) := HT6.out.c 2 rfl
          have c3 : w6.cell? ⟨B + 1, 3, none⟩ = some (.slice none 0 0) := HT6.out.c 3 rfl
          have c4 : w6.cell? ⟨B + 1, 4, none⟩ = some (.slice none 0 0) := HT6.out.c 4 rfl
          have c5 : w6.cell? ⟨B + 1, 5, none⟩ = some (.slice p2 (cl + 1) c2') := HT6.out.c 5 rfl
          have b2 := HT6.out.free 2
          have b5 := HT6.out.free 5
          have lt1 : B + 1 < w6.heap.size := HT6.out.size
          obtain ⟨r0, r1', r2', r3, r4, r5, hres⟩ := HT6.out.res
          have z0 := cell_of_heap hres 0 rfl
          have z1 := cell_of_heap hres 1 rfl
          have z2 := cell_of_heap hres 2 rfl
          have z3 := cell_of_heap hres 3 rfl
          have z4 := cell_of_heap hres 4 rfl
          have z5 := cell_of_heap hres 5 rfl
          have f0 := free_of_heap hres 0
          have f1 := free_of_heap hres 1
          have f2 := free_of_heap hres 2
          have f3 := free_of_heap hres 3
          have f4 := free_of_heap hres 4
          have f5 := free_of_heap hres 5
          clear hres
          go_upto_region 13 with (go_at_call 42; refine (blanks_any (at' := up2) (HD.out.below (HB6.out.mono (Nat.le_of_eq HBB.out))) hl (by omega)).mono ?_; rintro e w7 ⟨r2, rfl, hb2, rfl⟩; have HB2 := Lib.hid hb2; have hs1 := hb2.1.1; have hs2 := hb2.1.2.1; clear hb2)
          clear c0 c1 c2 c3 c4 c5 b2 b5 lt1 z0 z1 z2 z3 z4 z5 f0 f1 f2 f3 f4 f5
          clear v2 ltV
          have HT7 := Lib.hid (HT6.out.setTo r2)
          have HB7 := Lib.hid (below_setN HB6.out (show B ≤ B + 1 by omega) 2 (.int .i64 (r2 : Nat)))
          clear HT6 HB6 HV6
          generalize w6.setCell ⟨B + 1, 2, none⟩ (.int .i64 (r2 : Nat)) = w7 at HT7 HB7 ⊢
          have c0 : w7.cell? ⟨B + 1, 0, none⟩ = some (.int .i64 6) := HT7.out.c 0 rfl
          have c1 : w7.cell? ⟨B + 1, 1, none⟩ = some (.int .i64 (at' : Nat)) := HT7.out.c 1 rfl
          have c2 : w7.cell? ⟨B + 1, 2, none⟩ = some (.int .i64 (r2 : Nat)) := HT7.out.c 2 rfl
          have c3 : w7.cell? ⟨B + 1, 3, none⟩ = some (.slice none 0 0) := HT7.out.c 3 rfl
          have c4 : w7.cell? ⟨B + 1, 4, none⟩ = some (.slice none 0 0) := HT7.out.c 4 rfl
          have c5 : w7.cell? ⟨B + 1, 5, none⟩ = some (.slice p2 (cl + 1) c2') := HT7.out.c 5 rfl
          have b2 := HT7.out.free 2
          have b5 := HT7.out.free 5
          have lt1 : B + 1 < w7.heap.size := HT7.out.size
          obtain ⟨r0, r1', r2', r3, r4, r5, hres⟩ := HT7.out.res
          have z0 := cell_of_heap hres 0 rfl
          have z1 := cell_of_heap hres 1 rfl
          have z2 := cell_of_heap hres 2 rfl
          have z3 := cell_of_heap hres 3 rfl
          have z4 := cell_of_heap hres 4 rfl
          have z5 := cell_of_heap hres 5 rfl
          have f0 := free_of_heap hres 0
          have f1 := free_of_heap hres 1
          have f2 := free_of_heap hres 2
          have f3 := free_of_heap hres 3
          have f4 := free_of_heap hres 4
          have f5 := free_of_heap hres 5
          clear hres
          by_cases hlt : r2 < d.length
          case neg =>
            have hlt' : ¬ (r2 : Int) < (d.length : Int) := by omega
            have hge : (d.length : Int) ≤ (r2 : Int) := by omega
            have hgd : decide (d.length ≤ r2) = true := decide_eq_true (by omega)
            go_wp2
            refine bodyPost_ret (v := .tuple #[.agg #[.int .i64 6, .int .i64 (at' : Nat), .int .i64 (r2 : Nat), .slice none 0 0, .slice none 0 0, .slice p2 (cl + 1) c2'], .bool false]) (results_cell_row_tmp (p := 6) (u := 7) (ty := 71) rfl _ _ B 71 _ (0, 0) _ rfl ((HT7.out).ret _ _ _ _ _ _) Tryz.underlying71 rfl (by kernel_rfl)) rfl (FIN.out (HT7.out) (HB7.out) (by omega) hs2 (fun h => (by cases h)) (fun q h => absurd (arr_next (HU5.out q h) HB2.out).1 hlt))
          case pos =>
            have hlt' : (r2 : Int) < (d.length : Int) := by omega
            have hge : ¬ (d.length : Int) ≤ (r2 : Int) := by omega
            have hgd : decide (d.length ≤ r2) = false := decide_eq_false (by omega)
            have q0 := (HB7.out.cell (p := ⟨bd, off + r2, none⟩) hbd).trans (HCL.out r2 hlt)
            obtain ⟨c, hcc⟩ : ∃ c, d.getD r2 0 = c := ⟨_, rfl⟩
            rw [hcc] at q0
            have HCC := Lib.hid hcc
            clear hcc
            by_cases h93 : c = 93
            case pos =>
              subst h93
              go_wp2
              refine bodyPost_ret (v := .tuple #[.agg #[.int .i64 6, .int .i64 (at' : Nat), .int .i64 (r2 + 1 : Nat), .slice none 0 0, .slice none 0 0, .slice p2 (cl + 1) c2'], .bool true]) (results_cell_row_tmp (p := 6) (u := 7) (ty := 71) rfl _ _ B 71 _ (0, 0) _ rfl ((HT7.out.setTo (r2 + 1)).ret _ _ _ _ _ _) Tryz.underlying71 rfl (by kernel_rfl)) rfl (FIN.out (HT7.out.setTo (r2 + 1)) (below_setN HB7.out (show B ≤ B + 1 by omega) 2 _) (by omega) hlt (fun _ => by omega) (fun q h => ⟨rfl, by rcases (arr_next (HU5.out q h) HB2.out).2 with ⟨-, h1⟩ | ⟨h1, -⟩; exact h1.symm; rw [HCC.out] at h1; cases h1⟩))
            case neg =>
              have e1 : (c == 93) = false := beq_eq_false_iff_ne.2 h93
              by_cases h44 : c = 44
              case neg =>
                have e2 : (c != 44) = true := bne_iff_ne.2 h44
                have e3 : (c == 44) = false := beq_eq_false_iff_ne.2 h44
                go_wp2
                refine bodyPost_ret (v := .tuple #[.agg #[.int .i64 6, .int .i64 (at' : Nat), .int .i64 (r2 : Nat), .slice none 0 0, .slice none 0 0, .slice p2 (cl + 1) c2'], .bool false]) (results_cell_row_tmp (p := 6) (u := 7) (ty := 71) rfl _ _ B 71 _ (0, 0) _ rfl ((HT7.out).ret _ _ _ _ _ _) Tryz.underlying71 rfl (by kernel_rfl)) rfl (FIN.out (HT7.out) (HB7.out) (by omega) hs2 (fun h => (by cases h)) (fun q h => by rcases (arr_next (HU5.out q h) HB2.out).2 with ⟨h1, -⟩ | ⟨h1, -⟩; exact absurd (HCC.out.symm.trans h1) h93; exact absurd (HCC.out.symm.trans h1) h44))
              case pos =>
                subst h44
                clear h93
                go_wp2
                go_roundg (gk - (r2 + 1 - k))
                case measure => omega
                case rel =>
                  refine ⟨r2 + 1, r2, cl + 1, _, by omega, by go_num, by omega, by omega, by omega, HT7.out, HB7.out, fun q h => ?_⟩
                  rcases (arr_next (HU5.out q h) HB2.out).2 with ⟨h1, -⟩ | ⟨-, h1⟩
                  · rw [HCC.out] at h1; cases h1
                  · exact h1
end Go.Proofs.YtaecbclonmhbcaaGreatDoor
