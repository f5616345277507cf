/- The reference's Value. -/
import Derived.Test.YtaecbclonmhbcaaGreatDoorR37
set_option linter.unusedVariables false
set_option linter.unusedSimpArgs false
namespace Go.Proofs.YtaecbclonmhbcaaGreatDoor
open Go.RowKit
theorem lit3 {d : List Int} {p : Nat} {a b c : Int} (h : wordAt d p [a, b, c] = true) (hp : p < d.length) : p + 4 ≤ d.length ∧ d.getD (p + 1) 0 = a ∧ d.getD (p + 2) 0 = b ∧ d.getD (p + 3) 0 = c := by
  have hl := wordAt_len h hp
  simp only [List.length_cons, List.length_nil] at hl
  rw [wordAt3 d p a b c (by omega)] at h
  simp only [Bool.and_eq_true, beq_iff_eq] at h
  exact ⟨by omega, h.1, h.2.1, h.2.2.1⟩
theorem lit4 {d : List Int} {p : Nat} {a b c e : Int} (h : wordAt d p [a, b, c, e] = true) (hp : p < d.length) : p + 5 ≤ d.length ∧ d.getD (p + 1) 0 = a ∧ d.getD (p + 2) 0 = b ∧ d.getD (p + 3) 0 = c ∧ d.getD (p + 4) 0 = e := by
  have hl := wordAt_len h hp
  simp only [List.length_cons, List.length_nil] at hl
  rw [wordAt4 d p a b c e (by omega)] at h
  simp only [Bool.and_eq_true, beq_iff_eq] at h
  exact ⟨by omega, h.1, h.2.1, h.2.2.1, h.2.2.2.1⟩
theorem G.inv {d : List Int} {r q : Nat} (h : G d 0 r q) : (d.getD r 0 = 110 ∧ wordAt d r [117, 108, 108] = true ∧ q = r + 4) ∨ (d.getD r 0 = 116 ∧ wordAt d r [114, 117, 101] = true ∧ q = r + 4) ∨ (d.getD r 0 = 102 ∧ wordAt d r [97, 108, 115, 101] = true ∧ q = r + 5) ∨
    (d.getD r 0 = 34 ∧ SB d (r + 1) q) ∨ (d.getD r 0 = 91 ∧ G d 1 (r + 1) q) ∨ (d.getD r 0 = 123 ∧ G d 3 (r + 1) q) := by
  cases h with
  | word hp hw =>
    rcases hw with h | h | h
    · exact .inl h
    · exact .inr (.inl h)
    · exact .inr (.inr (.inl h))
  | str _ a b => exact .inr (.inr (.inr (.inl ⟨a, b⟩)))
  | arr _ a b => exact .inr (.inr (.inr (.inr (.inl ⟨a, b⟩))))
  | obj _ a b => exact .inr (.inr (.inr (.inr (.inr ⟨a, b⟩))))
theorem G.null {d : List Int} {r q : Nat} (h : G d 0 r q) (hc : d.getD r 0 = 110) : wordAt d r [117, 108, 108] = true ∧ q = r + 4 := by
  rcases h.inv with ⟨a, b⟩ | ⟨a, b⟩ | ⟨a, b⟩ | ⟨a, b⟩ | ⟨a, b⟩ | ⟨a, b⟩ <;> first | exact b | (rw [hc] at a; exact absurd a (by decide))
theorem G.truth {d : List Int} {r q : Nat} (h : G d 0 r q) (hc : d.getD r 0 = 116) : wordAt d r [114, 117, 101] = true ∧ q = r + 4 := by
  rcases h.inv with ⟨a, b⟩ | ⟨a, b⟩ | ⟨a, b⟩ | ⟨a, b⟩ | ⟨a, b⟩ | ⟨a, b⟩ <;> first | exact b | (rw [hc] at a; exact absurd a (by decide))
theorem G.falsity {d : List Int} {r q : Nat} (h : G d 0 r q) (hc : d.getD r 0 = 102) : wordAt d r [97, 108, 115, 101] = true ∧ q = r + 5 := by
  rcases h.inv with ⟨a, b⟩ | ⟨a, b⟩ | ⟨a, b⟩ | ⟨a, b⟩ | ⟨a, b⟩ | ⟨a, b⟩ <;> first | exact b | (rw [hc] at a; exact absurd a (by decide))
theorem G.quoted {d : List Int} {r q : Nat} (h : G d 0 r q) (hc : d.getD r 0 = 34) : SB d (r + 1) q := by
  rcases h.inv with ⟨a, b⟩ | ⟨a, b⟩ | ⟨a, b⟩ | ⟨a, b⟩ | ⟨a, b⟩ | ⟨a, b⟩ <;> first | exact b | (rw [hc] at a; exact absurd a (by decide))
theorem G.array {d : List Int} {r q : Nat} (h : G d 0 r q) (hc : d.getD r 0 = 91) : G d 1 (r + 1) q := by
  rcases h.inv with ⟨a, b⟩ | ⟨a, b⟩ | ⟨a, b⟩ | ⟨a, b⟩ | ⟨a, b⟩ | ⟨a, b⟩ <;> first | exact b | (rw [hc] at a; exact absurd a (by decide))
theorem G.object {d : List Int} {r q : Nat} (h : G d 0 r q) (hc : d.getD r 0 = 123) : G d 3 (r + 1) q := by
  rcases h.inv with ⟨a, b⟩ | ⟨a, b⟩ | ⟨a, b⟩ | ⟨a, b⟩ | ⟨a, b⟩ | ⟨a, b⟩ <;> first | exact b | (rw [hc] at a; exact absurd a (by decide))
set_option maxHeartbeats 8000000 in
set_option maxRecDepth 100000 in
theorem value_step {d : List Int} (hby : Bytes d) (h32 : ∀ i, i < d.length → 32 ≤ d.getD i 0) (hnn : NoNum d) (hl : d.length ≤ 100000) {n : Nat} (hC : ValC d n) : ValC d (n + 1) := by
  intro p cap at' deep w hd ha hn hdp hdp2
  obtain ⟨B, hB⟩ : ∃ B, w.heap.size = B := ⟨_, rfl⟩
  have HC := Lib.hid hC
  have HD := Lib.hid hd
  have HBY := Lib.hid hby
  have H32 := Lib.hid h32
  have HNN := Lib.hid hnn
  have HBB := Lib.hid hB
  have FIN : Hid (∀ {W : World} {p3 p4 p5 : Option Addr} {l3 c3 l4 c4 l5 c5 cn cl r up : Nat} {kd : Int} {ok : Bool}, NodeAt W B kd r up (.slice p3 l3 c3) (.slice p4 l4 c4) (.slice p5 l5 c5) cn cl → Below B w W → at' ≤ up → up ≤ d.length → (ok = true → at' < up) → (∀ q', (∃ r, Bl d at' r ∧ G d 0 r q') → ok = true ∧ up = q') →
      NodeQ d at' (fun q => ∃ r, Bl d at' r ∧ G d 0 r q) w (.returned (.tuple #[.agg #[.int .i64 kd, .int .i64 (r : Nat), .int .i64 (up : Nat), .slice p3 l3 c3, .slice p4 l4 c4, .slice p5 l5 c5], .bool ok])) ((((((W.setCell ⟨B, 0, none⟩ (.int .i64 kd)).setCell ⟨B, 1, none⟩ (.int .i64 (r : Nat))).setCell ⟨B, 2, none⟩ (.int .i64 (up : Nat))).setCell ⟨B, 3, none⟩ (.slice p3 l3 c3)).setCell ⟨B, 4, none⟩ (.slice p4 l4 c4)).setCell ⟨B, 5, none⟩ (.slice p5 l5 c5))) := by
    intro W p3 p4 p5 l3 c3 l4 c4 l5 c5 cn cl r up kd ok h1 h2 h3 h4 h5 h6
    exact ⟨_, _, _, _, _, _, _, _, _, _, _, _, _, rfl, h3, h4, h5, h6, (below_set6 h2 _ _ _ _ _ _).mono (Nat.le_of_eq hB)⟩
  have HBa : Hid (Below w.heap.size w (w.alloc (.cells #[.int .i64 0, .int .i64 0, .int .i64 0, .slice none 0 0, .slice none 0 0, .slice none 0 0] 71))) := (Below.refl _ w).alloc (Nat.le_refl _) _
  clear hC hd hby h32 hnn
  go_enter Tryz.func41, Tryz.ntmps41
  go_upto_region 2 with (go_at_call 42; refine (blanks_any (at' := at') (HD.out.below HBa.out) hl ha).mono ?_; rintro e w3 ⟨r, rfl, hb1, rfl⟩; have HB1 := Lib.hid hb1; have hr1 := hb1.1.1; have hr2 := hb1.1.2.1; clear hb1)
  go_upto_region 3 with fail
  have hbelow : Below B w ((w.alloc (.cells #[.int .i64 0, .int .i64 0, .int .i64 0, .slice none 0 0, .slice none 0 0, .slice none 0 0] 71)).alloc (.cells #[.int .i64 0, .int .i64 r, .int .i64 r, .slice none 0 0, .slice none 0 0, .slice none 0 0] 71)) := by
    rw [← HBB.out]
    exact ((Below.refl _ w).alloc (Nat.le_refl _) _).alloc (by simp) _
  have hnode : NodeAt ((w.alloc (.cells #[.int .i64 0, .int .i64 0, .int .i64 0, .slice none 0 0, .slice none 0 0, .slice none 0 0] 71)).alloc (.cells #[.int .i64 0, .int .i64 r, .int .i64 r, .slice none 0 0, .slice none 0 0, .slice none 0 0] 71)) B 0 r r (.slice none 0 0) (.slice none 0 0) (.slice none 0 0) 0 0 := by
    have hs : (w.alloc (.cells #[.int .i64 0, .int .i64 0, .int .i64 0, .slice none 0 0, .slice none 0 0, .slice none 0 0] 71)).heap.size = B + 1 := by rw [← HBB.out]; simp
    refine ⟨⟨.int .i64 0, .int .i64 0, .int .i64 0, .slice none 0 0, .slice none 0 0, .slice none 0 0, ?_⟩, ?_, ⟨[], World.ownsRow_nil _ _ _ _⟩, ⟨[], World.ownsRow_nil _ _ _ _⟩, fun j hj => by cases hj⟩
    · rw [heap_alloc_lt (by omega), ← HBB.out]; exact heap_alloc_new w _
    · rw [← hs]; exact heap_alloc_new _ _
  have HB0 := Lib.hid hbelow
  have HT0 := Lib.hid hnode
  clear hbelow hnode HBa
  generalize (w.alloc (.cells #[.int .i64 0, .int .i64 0, .int .i64 0, .slice none 0 0, .slice none 0 0, .slice none 0 0] 71)).alloc (.cells #[.int .i64 0, .int .i64 r, .int .i64 r, .slice none 0 0, .slice none 0 0, .slice none 0 0] 71) = wa at HB0 HT0 ⊢
  have c0 : wa.cell? ⟨B + 1, 0, none⟩ = some (.int .i64 0) := HT0.out.c 0 rfl
  have c1 : wa.cell? ⟨B + 1, 1, none⟩ = some (.int .i64 (r : Nat)) := HT0.out.c 1 rfl
  have c2 : wa.cell? ⟨B + 1, 2, none⟩ = some (.int .i64 (r : Nat)) := HT0.out.c 2 rfl
  have c3 : wa.cell? ⟨B + 1, 3, none⟩ = some (.slice none 0 0) := HT0.out.c 3 rfl
  have c4 : wa.cell? ⟨B + 1, 4, none⟩ = some (.slice none 0 0) := HT0.out.c 4 rfl
  have c5 : wa.cell? ⟨B + 1, 5, none⟩ = some (.slice none 0 0) := HT0.out.c 5 rfl
  have b0 := HT0.out.free 0
  have b2 := HT0.out.free 2
  have b3 := HT0.out.free 3
  have lt1 : B + 1 < wa.heap.size := HT0.out.size
  obtain ⟨r0, r1', r2', r3, r4, r5, hres⟩ := HT0.out.res
  have z0 := cell_of_heap hres 0 rfl
  have z1 := cell_of_heap hres 1 rfl
  have z2 := cell_of_heap hres 2 rfl
  have z3 := cell_of_heap hres 3 rfl
  have z4 := cell_of_heap hres 4 rfl
  have z5 := cell_of_heap hres 5 rfl
  have f0 := free_of_heap hres 0
  have f1 := free_of_heap hres 1
  have f2 := free_of_heap hres 2
  have f3 := free_of_heap hres 3
  have f4 := free_of_heap hres 4
  have f5 := free_of_heap hres 5
  clear hres
  have HGR : Hid (∀ q', (∃ r', Bl d at' r' ∧ G d 0 r' q') → G d 0 r q') := fun q' ⟨r', h1, h2⟩ => by
    obtain rfl := HB1.out.eq h1 (fun _ => h2.nbl)
    exact h2
  have hdd : ¬ deep < 1 := by omega
  by_cases hlt : r < d.length
  case neg =>
    have hge : (d.length : Int) ≤ (r : Int) := by omega
    have hgd : decide (d.length ≤ r) = true := decide_eq_true (by omega)
    go_wp2
    refine bodyPost_ret (v := .tuple #[.agg #[.int .i64 0, .int .i64 (r : Nat), .int .i64 (r : Nat), .slice none 0 0, .slice none 0 0, .slice none 0 0], .bool false]) (results_cell_row_tmp (p := 6) (u := 7) (ty := 71) rfl _ _ B 71 _ (0, 0) _ rfl ((HT0.out).ret _ _ _ _ _ _) Tryz.underlying71 rfl (by kernel_rfl)) rfl (FIN.out (HT0.out) (HB0.out) (by omega) hr2 (fun h => (by cases h)) (fun q h => absurd (HGR.out q h).lt (by omega)))
  case pos =>
    have hge : ¬ (d.length : Int) ≤ (r : Int) := by omega
    have hgd : decide (d.length ≤ r) = false := decide_eq_false (by omega)
    obtain ⟨bd, off, rfl, hbd, hc⟩ := HD.out (by omega)
    rw [HBB.out] at hbd
    have q0 := (HB0.out.cell (p := ⟨bd, off + r, none⟩) hbd).trans (hc r hlt)
    clear hc
    have hnr := HNN.out r
    obtain ⟨c, hcc⟩ : ∃ c, d.getD r 0 = c := ⟨_, rfl⟩
    rw [hcc] at q0 hnr
    have h45 : (c == 45) = false := beq_eq_false_iff_ne.2 hnr.2
    have HDG := Lib.hid hnr.1
    have HCC := Lib.hid hcc
    clear hcc hnr
    have HDa := Lib.hid (HD.out.below (HB0.out.mono (Nat.le_of_eq HBB.out)))
    by_cases h110 : c = 110
    case pos =>
      subst h110
      go_upto_region 9 with fail
      clear c0 c1 c2 c3 c4 c5 b0 b2 b3 lt1 z0 z1 z2 z3 z4 z5 f0 f1 f2 f3 f4 f5
      have HT1 := Lib.hid (HT0.out.setKind 1)
      have HBy := Lib.hid (below_setN HB0.out (show B ≤ B + 1 by omega) 0 (.int .i64 1))
      clear HT0 HB0 HDa q0
      generalize wa.setCell ⟨B + 1, 0, none⟩ (.int .i64 1) = w1 at HT1 HBy ⊢
      have HD1 := Lib.hid (HD.out.below (HBy.out.mono (Nat.le_of_eq HBB.out)))
      go_upto_region 27 with (go_at_call 95; refine (literal_any (at' := r) ⟨#[110, 117, 108, 108]⟩ HD1.out hl hr2 (by decide)).mono ?_; rintro e w2 ⟨q, t, rfl, g1, g2, g3, g4, hk⟩; have hkb := below_of_kept hk; have ht2 := HT1.out.below hkb; have y2 : w2.cell? ⟨B + 1, 2, none⟩ = some (.int .i64 (r : Nat)) := ht2.c 2 rfl; have y3 := ht2.free 2; have lt2 : B + 1 < w2.heap.size := ht2.size; have HT2 := Lib.hid ht2; have HB2 : Hid (Below B w w2) := HBy.out.trans (hkb.mono (by have := HT1.out.size; omega)); have H3 := Lib.hid g3; have H4 := Lib.hid g4; clear g3 g4 hk hkb ht2)
      have HT3 := Lib.hid (HT2.out.setTo q)
      have HB3 := Lib.hid (below_setN HB2.out (show B ≤ B + 1 by omega) 2 (.int .i64 (q : Nat)))
      clear y2 y3 lt2 HT2 HB2 HT1 HBy HD1
      generalize w2.setCell ⟨B + 1, 2, none⟩ (.int .i64 (q : Nat)) = w3 at HT3 HB3 ⊢
      have c0 : w3.cell? ⟨B + 1, 0, none⟩ = some (.int .i64 1) := HT3.out.c 0 rfl
      have c1 : w3.cell? ⟨B + 1, 1, none⟩ = some (.int .i64 (r : Nat)) := HT3.out.c 1 rfl
      have c2 : w3.cell? ⟨B + 1, 2, none⟩ = some (.int .i64 (q : Nat)) := HT3.out.c 2 rfl
      have c3 : w3.cell? ⟨B + 1, 3, none⟩ = some (.slice none 0 0) := HT3.out.c 3 rfl
      have c4 : w3.cell? ⟨B + 1, 4, none⟩ = some (.slice none 0 0) := HT3.out.c 4 rfl
      have c5 : w3.cell? ⟨B + 1, 5, none⟩ = some (.slice none 0 0) := HT3.out.c 5 rfl
      have b0 := HT3.out.free 0
      have b2 := HT3.out.free 2
      have b3 := HT3.out.free 3
      have lt1 : B + 1 < w3.heap.size := HT3.out.size
      obtain ⟨r0, r1', r2', r3, r4, r5, hres⟩ := HT3.out.res
      have z0 := cell_of_heap hres 0 rfl
      have z1 := cell_of_heap hres 1 rfl
      have z2 := cell_of_heap hres 2 rfl
      have z3 := cell_of_heap hres 3 rfl
      have z4 := cell_of_heap hres 4 rfl
      have z5 := cell_of_heap hres 5 rfl
      have f0 := free_of_heap hres 0
      have f1 := free_of_heap hres 1
      have f2 := free_of_heap hres 2
      have f3 := free_of_heap hres 3
      have f4 := free_of_heap hres 4
      have f5 := free_of_heap hres 5
      clear hres
      go_wp2
      refine bodyPost_ret (v := .tuple #[.agg #[.int .i64 1, .int .i64 (r : Nat), .int .i64 (q : Nat), .slice none 0 0, .slice none 0 0, .slice none 0 0], .bool t]) (results_cell_row_tmp (p := 6) (u := 7) (ty := 71) rfl _ _ B 71 _ (0, 0) _ rfl ((HT3.out).ret _ _ _ _ _ _) Tryz.underlying71 rfl (by kernel_rfl)) rfl (FIN.out (HT3.out) (HB3.out) (by omega) g2 (fun h => by have : q = r + 4 := H3.out h; omega) (fun q' h => by
        obtain ⟨hw, rfl⟩ := (HGR.out q' h).null HCC.out
        obtain ⟨hlen, g1, g2, g3⟩ := lit3 hw hlt
        have ht : t = true := H4.out fun i hi => by
          have hi : i < 4 := hi
          match i, hi with
          | 0, _ => exact ⟨by omega, HCC.out⟩
          | 1, _ => exact ⟨by omega, g1⟩
          | 2, _ => exact ⟨by omega, g2⟩
          | 3, _ => exact ⟨by omega, g3⟩
        exact ⟨ht, H3.out ht⟩))
    case neg =>
    by_cases h102 : c = 102
    case pos =>
      subst h102
      go_upto_region 12 with fail
      clear c0 c1 c2 c3 c4 c5 b0 b2 b3 lt1 z0 z1 z2 z3 z4 z5 f0 f1 f2 f3 f4 f5
      have HT1 := Lib.hid (HT0.out.setKind 2)
      have HBy := Lib.hid (below_setN HB0.out (show B ≤ B + 1 by omega) 0 (.int .i64 2))
      clear HT0 HB0 HDa q0
      generalize wa.setCell ⟨B + 1, 0, none⟩ (.int .i64 2) = w1 at HT1 HBy ⊢
      have HD1 := Lib.hid (HD.out.below (HBy.out.mono (Nat.le_of_eq HBB.out)))
      go_upto_region 27 with (go_at_call 95; refine (literal_any (at' := r) ⟨#[102, 97, 108, 115, 101]⟩ HD1.out hl hr2 (by decide)).mono ?_; rintro e w2 ⟨q, t, rfl, g1, g2, g3, g4, hk⟩; have hkb := below_of_kept hk; have ht2 := HT1.out.below hkb; have y2 : w2.cell? ⟨B + 1, 2, none⟩ = some (.int .i64 (r : Nat)) := ht2.c 2 rfl; have y3 := ht2.free 2; have lt2 : B + 1 < w2.heap.size := ht2.size; have HT2 := Lib.hid ht2; have HB2 : Hid (Below B w w2) := HBy.out.trans (hkb.mono (by have := HT1.out.size; omega)); have H3 := Lib.hid g3; have H4 := Lib.hid g4; clear g3 g4 hk hkb ht2)
      have HT3 := Lib.hid (HT2.out.setTo q)
      have HB3 := Lib.hid (below_setN HB2.out (show B ≤ B + 1 by omega) 2 (.int .i64 (q : Nat)))
      clear y2 y3 lt2 HT2 HB2 HT1 HBy HD1
      generalize w2.setCell ⟨B + 1, 2, none⟩ (.int .i64 (q : Nat)) = w3 at HT3 HB3 ⊢
      have c0 : w3.cell? ⟨B + 1, 0, none⟩ = some (.int .i64 2) := HT3.out.c 0 rfl
      have c1 : w3.cell? ⟨B + 1, 1, none⟩ = some (.int .i64 (r : Nat)) := HT3.out.c 1 rfl
      have c2 : w3.cell? ⟨B + 1, 2, none⟩ = some (.int .i64 (q : Nat)) := HT3.out.c 2 rfl
      have c3 : w3.cell? ⟨B + 1, 3, none⟩ = some (.slice none 0 0) := HT3.out.c 3 rfl
      have c4 : w3.cell? ⟨B + 1, 4, none⟩ = some (.slice none 0 0) := HT3.out.c 4 rfl
      have c5 : w3.cell? ⟨B + 1, 5, none⟩ = some (.slice none 0 0) := HT3.out.c 5 rfl
      have b0 := HT3.out.free 0
      have b2 := HT3.out.free 2
      have b3 := HT3.out.free 3
      have lt1 : B + 1 < w3.heap.size := HT3.out.size
      obtain ⟨r0, r1', r2', r3, r4, r5, hres⟩ := HT3.out.res
      have z0 := cell_of_heap hres 0 rfl
      have z1 := cell_of_heap hres 1 rfl
      have z2 := cell_of_heap hres 2 rfl
      have z3 := cell_of_heap hres 3 rfl
      have z4 := cell_of_heap hres 4 rfl
      have z5 := cell_of_heap hres 5 rfl
      have f0 := free_of_heap hres 0
      have f1 := free_of_heap hres 1
      have f2 := free_of_heap hres 2
      have f3 := free_of_heap hres 3
      have f4 := free_of_heap hres 4
      have f5 := free_of_heap hres 5
      clear hres
      go_wp2
      refine bodyPost_ret (v := .tuple #[.agg #[.int .i64 2, .int .i64 (r : Nat), .int .i64 (q : Nat), .slice none 0 0, .slice none 0 0, .slice none 0 0], .bool t]) (results_cell_row_tmp (p := 6) (u := 7) (ty := 71) rfl _ _ B 71 _ (0, 0) _ rfl ((HT3.out).ret _ _ _ _ _ _) Tryz.underlying71 rfl (by kernel_rfl)) rfl (FIN.out (HT3.out) (HB3.out) (by omega) g2 (fun h => by have : q = r + 5 := H3.out h; omega) (fun q' h => by
        obtain ⟨hw, rfl⟩ := (HGR.out q' h).falsity HCC.out
        obtain ⟨hlen, g1, g2, g3, g4⟩ := lit4 hw hlt
        have ht : t = true := H4.out fun i hi => by
          have hi : i < 5 := hi
          match i, hi with
          | 0, _ => exact ⟨by omega, HCC.out⟩
          | 1, _ => exact ⟨by omega, g1⟩
          | 2, _ => exact ⟨by omega, g2⟩
          | 3, _ => exact ⟨by omega, g3⟩
          | 4, _ => exact ⟨by omega, g4⟩
        exact ⟨ht, H3.out ht⟩))
    case neg =>
    by_cases h116 : c = 116
    case pos =>
      subst h116
      go_upto_region 15 with fail
      clear c0 c1 c2 c3 c4 c5 b0 b2 b3 lt1 z0 z1 z2 z3 z4 z5 f0 f1 f2 f3 f4 f5
      have HT1 := Lib.hid (HT0.out.setKind 3)
      have HBy := Lib.hid (below_setN HB0.out (show B ≤ B + 1 by omega) 0 (.int .i64 3))
      clear HT0 HB0 HDa q0
      generalize wa.setCell ⟨B + 1, 0, none⟩ (.int .i64 3) = w1 at HT1 HBy ⊢
      have HD1 := Lib.hid (HD.out.below (HBy.out.mono (Nat.le_of_eq HBB.out)))
      go_upto_region 27 with (go_at_call 95; refine (literal_any (at' := r) ⟨#[116, 114, 117, 101]⟩ HD1.out hl hr2 (by decide)).mono ?_; rintro e w2 ⟨q, t, rfl, g1, g2, g3, g4, hk⟩; have hkb := below_of_kept hk; have ht2 := HT1.out.below hkb; have y2 : w2.cell? ⟨B + 1, 2, none⟩ = some (.int .i64 (r : Nat)) := ht2.c 2 rfl; have y3 := ht2.free 2; have lt2 : B + 1 < w2.heap.size := ht2.size; have HT2 := Lib.hid ht2; have HB2 : Hid (Below B w w2) := HBy.out.trans (hkb.mono (by have := HT1.out.size; omega)); have H3 := Lib.hid g3; have H4 := Lib.hid g4; clear g3 g4 hk hkb ht2)
      have HT3 := Lib.hid (HT2.out.setTo q)
      have HB3 := Lib.hid (below_setN HB2.out (show B ≤ B + 1 by omega) 2 (.int .i64 (q : Nat)))
      clear y2 y3 lt2 HT2 HB2 HT1 HBy HD1
      generalize w2.setCell ⟨B + 1, 2, none⟩ (.int .i64 (q : Nat)) = w3 at HT3 HB3 ⊢
      have c0 : w3.cell? ⟨B + 1, 0, none⟩ = some (.int .i64 3) := HT3.out.c 0 rfl
      have c1 : w3.cell? ⟨B + 1, 1, none⟩ = some (.int .i64 (r : Nat)) := HT3.out.c 1 rfl
      have c2 : w3.cell? ⟨B + 1, 2, none⟩ = some (.int .i64 (q : Nat)) := HT3.out.c 2 rfl
      have c3 : w3.cell? ⟨B + 1, 3, none⟩ = some (.slice none 0 0) := HT3.out.c 3 rfl
      have c4 : w3.cell? ⟨B + 1, 4, none⟩ = some (.slice none 0 0) := HT3.out.c 4 rfl
      have c5 : w3.cell? ⟨B + 1, 5, none⟩ = some (.slice none 0 0) := HT3.out.c 5 rfl
      have b0 := HT3.out.free 0
      have b2 := HT3.out.free 2
      have b3 := HT3.out.free 3
      have lt1 : B + 1 < w3.heap.size := HT3.out.size
      obtain ⟨r0, r1', r2', r3, r4, r5, hres⟩ := HT3.out.res
      have z0 := cell_of_heap hres 0 rfl
      have z1 := cell_of_heap hres 1 rfl
      have z2 := cell_of_heap hres 2 rfl
      have z3 := cell_of_heap hres 3 rfl
      have z4 := cell_of_heap hres 4 rfl
      have z5 := cell_of_heap hres 5 rfl
      have f0 := free_of_heap hres 0
      have f1 := free_of_heap hres 1
      have f2 := free_of_heap hres 2
      have f3 := free_of_heap hres 3
      have f4 := free_of_heap hres 4
      have f5 := free_of_heap hres 5
      clear hres
      go_wp2
      refine bodyPost_ret (v := .tuple #[.agg #[.int .i64 3, .int .i64 (r : Nat), .int .i64 (q : Nat), .slice none 0 0, .slice none 0 0, .slice none 0 0], .bool t]) (results_cell_row_tmp (p := 6) (u := 7) (ty := 71) rfl _ _ B 71 _ (0, 0) _ rfl ((HT3.out).ret _ _ _ _ _ _) Tryz.underlying71 rfl (by kernel_rfl)) rfl (FIN.out (HT3.out) (HB3.out) (by omega) g2 (fun h => by have : q = r + 4 := H3.out h; omega) (fun q' h => by
        obtain ⟨hw, rfl⟩ := (HGR.out q' h).truth HCC.out
        obtain ⟨hlen, g1, g2, g3⟩ := lit3 hw hlt
        have ht : t = true := H4.out fun i hi => by
          have hi : i < 4 := hi
          match i, hi with
          | 0, _ => exact ⟨by omega, HCC.out⟩
          | 1, _ => exact ⟨by omega, g1⟩
          | 2, _ => exact ⟨by omega, g2⟩
          | 3, _ => exact ⟨by omega, g3⟩
        exact ⟨ht, H3.out ht⟩))
    case neg =>
    by_cases h91 : c = 91
    case pos =>
      subst h91
      clear c0 c1 c2 c3 c4 c5 b0 b2 b3 lt1 z0 z1 z2 z3 z4 z5 f0 f1 f2 f3 f4 f5
      go_wp2_with (go_at_call 98; refine (array_spec HC.out HDa.out HBY.out hl hlt (by omega) (by omega) hdp2).mono ?_; rintro e w2 ⟨kd, fr, up, p3, l3, c3', p4, l4, c4', p5, l5, c5', ok, rfl, g1, g2, g3, g4, hk⟩; have HT1 := Lib.hid (HT0.out.below hk); have HB1' : Hid (Below B w w2) := HB0.out.trans (hk.mono (by have := HT0.out.size; omega)); obtain ⟨r0, r1', r2', r3, r4, r5, hres⟩ := HT1.out.res; have z0 := cell_of_heap hres 0 rfl; have z1 := cell_of_heap hres 1 rfl; have z2 := cell_of_heap hres 2 rfl; have z3 := cell_of_heap hres 3 rfl; have z4 := cell_of_heap hres 4 rfl; have z5 := cell_of_heap hres 5 rfl; have f0 := free_of_heap hres 0; have f1 := free_of_heap hres 1; have f2 := free_of_heap hres 2; have f3 := free_of_heap hres 3; have f4 := free_of_heap hres 4; have f5 := free_of_heap hres 5; have H4 := Lib.hid g4; clear hres g4 hk)
      refine bodyPost_ret (v := .tuple #[.agg #[.int .i64 kd, .int .i64 fr, .int .i64 (up : Nat), .slice p3 l3 c3', .slice p4 l4 c4', .slice p5 l5 c5'], .bool ok]) (results_cell_row_tmp (p := 6) (u := 7) (ty := 71) rfl _ _ B 71 _ (0, 0) _ rfl (HT1.out.ret _ _ _ _ _ _) Tryz.underlying71 rfl (by kernel_rfl)) rfl ⟨_, _, _, _, _, _, _, _, _, _, _, _, _, rfl, by omega, g2, fun h => by have := g3 h; omega, fun q' h => H4.out q' ((HGR.out q' h).array HCC.out), (below_set6 HB1'.out _ _ _ _ _ _).mono (Nat.le_of_eq HBB.out)⟩
    case neg =>
    by_cases h123 : c = 123
    case pos =>
      subst h123
      clear c0 c1 c2 c3 c4 c5 b0 b2 b3 lt1 z0 z1 z2 z3 z4 z5 f0 f1 f2 f3 f4 f5
      go_wp2_with (go_at_call 99; refine (object_spec HC.out HDa.out HBY.out H32.out hl hlt (by omega) (by omega) hdp2).mono ?_; rintro e w2 ⟨kd, fr, up, p3, l3, c3', p4, l4, c4', p5, l5, c5', ok, rfl, g1, g2, g3, g4, hk⟩; have HT1 := Lib.hid (HT0.out.below hk); have HB1' : Hid (Below B w w2) := HB0.out.trans (hk.mono (by have := HT0.out.size; omega)); obtain ⟨r0, r1', r2', r3, r4, r5, hres⟩ := HT1.out.res; have z0 := cell_of_heap hres 0 rfl; have z1 := cell_of_heap hres 1 rfl; have z2 := cell_of_heap hres 2 rfl; have z3 := cell_of_heap hres 3 rfl; have z4 := cell_of_heap hres 4 rfl; have z5 := cell_of_heap hres 5 rfl; have f0 := free_of_heap hres 0; have f1 := free_of_heap hres 1; have f2 := free_of_heap hres 2; have f3 := free_of_heap hres 3; have f4 := free_of_heap hres 4; have f5 := free_of_heap hres 5; have H4 := Lib.hid g4; clear hres g4 hk)
      refine bodyPost_ret (v := .tuple #[.agg #[.int .i64 kd, .int .i64 fr, .int .i64 (up : Nat), .slice p3 l3 c3', .slice p4 l4 c4', .slice p5 l5 c5'], .bool ok]) (results_cell_row_tmp (p := 6) (u := 7) (ty := 71) rfl _ _ B 71 _ (0, 0) _ rfl (HT1.out.ret _ _ _ _ _ _) Tryz.underlying71 rfl (by kernel_rfl)) rfl ⟨_, _, _, _, _, _, _, _, _, _, _, _, _, rfl, by omega, g2, fun h => by have := g3 h; omega, fun q' h => H4.out q' ((HGR.out q' h).object HCC.out), (below_set6 HB1'.out _ _ _ _ _ _).mono (Nat.le_of_eq HBB.out)⟩
    case neg =>
    have e110 : (c == 110) = false := beq_eq_false_iff_ne.2 h110
    have e102 : (c == 102) = false := beq_eq_false_iff_ne.2 h102
    have e116 : (c == 116) = false := beq_eq_false_iff_ne.2 h116
    have e91 : (c == 91) = false := beq_eq_false_iff_ne.2 h91
    have e123 : (c == 123) = false := beq_eq_false_iff_ne.2 h123
    by_cases h34 : c = 34
    case pos =>
      subst h34
      clear c0 c1 c2 c3 c4 c5 b0 b2 b3 lt1 z0 z1 z2 z3 z4 z5 f0 f1 f2 f3 f4 f5
      go_upto_region 22 with (go_at_call 97; refine (string_spec HDa.out HBY.out H32.out hl hr2).mono ?_; rintro e w2 ⟨ps, ls, cs, q1, tok, al, esc, rfl, hq1, hq2, hq3, hq4, hk⟩; have HQ4 := Lib.hid hq4; have HK := Lib.hid hk; clear hq4 hk)
      have ht1 := HT0.out.below HK.out
      have hb1 : Below B w w2 := HB0.out.trans (HK.out.mono (by have := HT0.out.size; omega))
      have htB : B + 2 ≤ w2.heap.size := ht1.size
      have HT1 := Lib.hid (ht1.below (Below.alloc (Below.refl _ w2) (Nat.le_refl _) (.cells #[.slice ps ls cs, .int .i64 (q1 : Nat), .bool tok, .bool al, .bool esc] 119)))
      have HBy := Lib.hid (hb1.alloc (show B ≤ w2.heap.size by omega) (.cells #[.slice ps ls cs, .int .i64 (q1 : Nat), .bool tok, .bool al, .bool esc] 119))
      have hx := heap_alloc_new w2 (.cells #[.slice ps ls cs, .int .i64 (q1 : Nat), .bool tok, .bool al, .bool esc] 119)
      clear ht1 hb1 HK HT0 HB0 HDa q0
      generalize w2.alloc (.cells #[.slice ps ls cs, .int .i64 (q1 : Nat), .bool tok, .bool al, .bool esc] 119) = w3 at HT1 HBy hx ⊢
      generalize w2.heap.size = T at htB hx ⊢
      have ltT : T < w3.heap.size := lt_heap hx
      have t0 := cell_of_heap hx 0 rfl
      have t1 := cell_of_heap hx 1 rfl
      have t2 := cell_of_heap hx 2 rfl
      have nT1 : ¬ T = B + 1 := by omega
      have nT2 : ¬ B + 1 = T := by omega
      clear hx
      have c0 : w3.cell? ⟨B + 1, 0, none⟩ = some (.int .i64 0) := HT1.out.c 0 rfl
      have c1 : w3.cell? ⟨B + 1, 1, none⟩ = some (.int .i64 (r : Nat)) := HT1.out.c 1 rfl
      have c2 : w3.cell? ⟨B + 1, 2, none⟩ = some (.int .i64 (r : Nat)) := HT1.out.c 2 rfl
      have c3 : w3.cell? ⟨B + 1, 3, none⟩ = some (.slice none 0 0) := HT1.out.c 3 rfl
      have c4 : w3.cell? ⟨B + 1, 4, none⟩ = some (.slice none 0 0) := HT1.out.c 4 rfl
      have c5 : w3.cell? ⟨B + 1, 5, none⟩ = some (.slice none 0 0) := HT1.out.c 5 rfl
      have b0 := HT1.out.free 0
      have b2 := HT1.out.free 2
      have b3 := HT1.out.free 3
      have lt1 : B + 1 < w3.heap.size := HT1.out.size
      obtain ⟨r0, r1', r2', r3, r4, r5, hres⟩ := HT1.out.res
      have z0 := cell_of_heap hres 0 rfl
      have z1 := cell_of_heap hres 1 rfl
      have z2 := cell_of_heap hres 2 rfl
      have z3 := cell_of_heap hres 3 rfl
      have z4 := cell_of_heap hres 4 rfl
      have z5 := cell_of_heap hres 5 rfl
      have f0 := free_of_heap hres 0
      have f1 := free_of_heap hres 1
      have f2 := free_of_heap hres 2
      have f3 := free_of_heap hres 3
      have f4 := free_of_heap hres 4
      have f5 := free_of_heap hres 5
      clear hres
      go_region
      go_upto_region 27 with fail
      clear c0 c1 c2 c3 c4 c5 b0 b2 b3 lt1 z0 z1 z2 z3 z4 z5 f0 f1 f2 f3 f4 f5
      clear t0 t1 t2 ltT
      have HT2 : Hid (NodeAt ((((w3.setCell ⟨B + 1, 0, none⟩ (.int .i64 5)).setCell ⟨B + 1, 3, none⟩ (.slice ps ls cs)).setCell ⟨B + 1, 2, none⟩ (.int .i64 (q1 : Nat))).drew) B 5 r q1 (.slice ps ls cs) (.slice none 0 0) (.slice none 0 0) 0 0) := (((HT1.out.setKind 5).setS (.slice ps ls cs)).setTo q1).below ⟨rfl, rfl, rfl, Nat.le_refl _, fun _ _ => rfl⟩
      have HB2 : Hid (Below B w ((((w3.setCell ⟨B + 1, 0, none⟩ (.int .i64 5)).setCell ⟨B + 1, 3, none⟩ (.slice ps ls cs)).setCell ⟨B + 1, 2, none⟩ (.int .i64 (q1 : Nat))).drew)) := (below_setN (below_setN (below_setN HBy.out (show B ≤ B + 1 by omega) 0 _) (show B ≤ B + 1 by omega) 3 _) (show B ≤ B + 1 by omega) 2 _).drew
      clear HT1 HBy
      generalize (((w3.setCell ⟨B + 1, 0, none⟩ (.int .i64 5)).setCell ⟨B + 1, 3, none⟩ (.slice ps ls cs)).setCell ⟨B + 1, 2, none⟩ (.int .i64 (q1 : Nat))).drew = w4 at HT2 HB2 ⊢
      have c0 : w4.cell? ⟨B + 1, 0, none⟩ = some (.int .i64 5) := HT2.out.c 0 rfl
      have c1 : w4.cell? ⟨B + 1, 1, none⟩ = some (.int .i64 (r : Nat)) := HT2.out.c 1 rfl
      have c2 : w4.cell? ⟨B + 1, 2, none⟩ = some (.int .i64 (q1 : Nat)) := HT2.out.c 2 rfl
      have c3 : w4.cell? ⟨B + 1, 3, none⟩ = some (.slice ps ls cs) := HT2.out.c 3 rfl
      have c4 : w4.cell? ⟨B + 1, 4, none⟩ = some (.slice none 0 0) := HT2.out.c 4 rfl
      have c5 : w4.cell? ⟨B + 1, 5, none⟩ = some (.slice none 0 0) := HT2.out.c 5 rfl
      have b0 := HT2.out.free 0
      have b2 := HT2.out.free 2
      have b3 := HT2.out.free 3
      have lt1 : B + 1 < w4.heap.size := HT2.out.size
      obtain ⟨r0, r1', r2', r3, r4, r5, hres⟩ := HT2.out.res
      have z0 := cell_of_heap hres 0 rfl
      have z1 := cell_of_heap hres 1 rfl
      have z2 := cell_of_heap hres 2 rfl
      have z3 := cell_of_heap hres 3 rfl
      have z4 := cell_of_heap hres 4 rfl
      have z5 := cell_of_heap hres 5 rfl
      have f0 := free_of_heap hres 0
      have f1 := free_of_heap hres 1
      have f2 := free_of_heap hres 2
      have f3 := free_of_heap hres 3
      have f4 := free_of_heap hres 4
      have f5 := free_of_heap hres 5
      clear hres
      go_wp2
      refine bodyPost_ret (v := .tuple #[.agg #[.int .i64 5, .int .i64 (r : Nat), .int .i64 (q1 : Nat), .slice ps ls cs, .slice none 0 0, .slice none 0 0], .bool tok]) (results_cell_row_tmp (p := 6) (u := 7) (ty := 71) rfl _ _ B 71 _ (0, 0) _ rfl ((HT2.out).ret _ _ _ _ _ _) Tryz.underlying71 rfl (by kernel_rfl)) rfl (FIN.out (HT2.out) (HB2.out) (by omega) hq2 (fun h => by have := hq3 h; omega) (fun q h => HQ4.out q hlt HCC.out ((HGR.out q h).quoted HCC.out)))
    case neg =>
    have e34 : (c == 34) = false := beq_eq_false_iff_ne.2 h34
    have HNO : Hid (∀ q', ¬ ∃ r', Bl d at' r' ∧ G d 0 r' q') := fun q' h => by
      rcases (HGR.out q' h).inv with ⟨a, -⟩ | ⟨a, -⟩ | ⟨a, -⟩ | ⟨a, -⟩ | ⟨a, -⟩ | ⟨a, -⟩
      · exact h110 (HCC.out.symm.trans a)
      · exact h116 (HCC.out.symm.trans a)
      · exact h102 (HCC.out.symm.trans a)
      · exact h34 (HCC.out.symm.trans a)
      · exact h91 (HCC.out.symm.trans a)
      · exact h123 (HCC.out.symm.trans a)
    by_cases hd1 : 48 ≤ c
    case neg =>
      have hd1' : decide (48 ≤ c) = false := decide_eq_false hd1
      go_wp2
      refine bodyPost_ret (v := .tuple #[.agg #[.int .i64 0, .int .i64 (r : Nat), .int .i64 (r : Nat), .slice none 0 0, .slice none 0 0, .slice none 0 0], .bool false]) (results_cell_row_tmp (p := 6) (u := 7) (ty := 71) rfl _ _ B 71 _ (0, 0) _ rfl ((HT0.out).ret _ _ _ _ _ _) Tryz.underlying71 rfl (by kernel_rfl)) rfl (FIN.out (HT0.out) (HB0.out) (by omega) hr2 (fun h => (by cases h)) (fun q h => absurd h (HNO.out q)))
    case pos =>
      have hd2 : ¬ c ≤ 57 := fun h => by
        have := HDG.out
        unfold isDig at this
        rw [decide_eq_true hd1, decide_eq_true h] at this
        cases this
      have hd1' : decide (48 ≤ c) = true := decide_eq_true hd1
      have hd2' : decide (c ≤ 57) = false := decide_eq_false hd2
      go_wp2
      refine bodyPost_ret (v := .tuple #[.agg #[.int .i64 0, .int .i64 (r : Nat), .int .i64 (r : Nat), .slice none 0 0, .slice none 0 0, .slice none 0 0], .bool false]) (results_cell_row_tmp (p := 6) (u := 7) (ty := 71) rfl _ _ B 71 _ (0, 0) _ rfl ((HT0.out).ret _ _ _ _ _ _) Tryz.underlying71 rfl (by kernel_rfl)) rfl (FIN.out (HT0.out) (HB0.out) (by omega) hr2 (fun h => (by cases h)) (fun q h => absurd h (HNO.out q)))
theorem value_any {d : List Int} (hby : Bytes d) (h32 : ∀ i, i < d.length → 32 ≤ d.getD i 0) (hnn : NoNum d) (hl : d.length ≤ 100000) : ∀ n, ValC d n
  | 0 => fun _ _ _ _ _ _ _ h => absurd h (Nat.not_lt_zero _)
  | n + 1 => value_step hby h32 hnn hl (value_any hby h32 hnn hl n)
end Go.Proofs.YtaecbclonmhbcaaGreatDoor
