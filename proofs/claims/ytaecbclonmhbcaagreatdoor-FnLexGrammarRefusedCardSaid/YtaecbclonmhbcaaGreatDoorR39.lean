/- The reference's Whole and IsText. The reference's Point and IsUTF8, by what they may do. The reference's isClean, by what it may do. The reference's Clean, by what it may do. The walk of FnLexGrammarRefused. -/
import Derived.Test.YtaecbclonmhbcaaGreatDoorR38
import Derived.Test.YtaecbclonmhbcaaGreatDoorR33
import Derived.Test.YtaecbclonmhbcaaGreatDoorR25
import Derived.Deep.RegionHeld3
set_option linter.unusedVariables false
set_option linter.unusedSimpArgs false
namespace Go.Proofs.YtaecbclonmhbcaaGreatDoor
open Go.RowKit
def WholeQ (d : List Int) (w : World) (e : Ending) (w' : World) : Prop :=
  ∃ (kd fr : Int) (up : Nat) (p3 : Option Addr) (l3 c3 : Nat) (p4 : Option Addr) (l4 c4 : Nat) (p5 : Option Addr) (l5 c5 : Nat) (ok : Bool),
    e = .returned (.tuple #[.agg #[.int .i64 kd, .int .i64 fr, .int .i64 up, .slice p3 l3 c3, .slice p4 l4 c4, .slice p5 l5 c5], .bool ok]) ∧ (Txt d → ok = true) ∧ Below w.heap.size w w'
theorem set6_row {W : World} {B : Nat} {x0 x1 x2 x3 x4 x5 : Value} {t : TypeId} (h : W.heap[B]? = some (.cells #[x0, x1, x2, x3, x4, x5] t (0, 0))) (a0 a1 a2 a3 a4 a5 : Value) :
    ((((((W.setCell ⟨B, 0, none⟩ a0).setCell ⟨B, 1, none⟩ a1).setCell ⟨B, 2, none⟩ a2).setCell ⟨B, 3, none⟩ a3).setCell ⟨B, 4, none⟩ a4).setCell ⟨B, 5, none⟩ a5).heap[B]? = some (.cells #[a0, a1, a2, a3, a4, a5] t (0, 0)) := by
  rw [heap_setCell (heap_setCell (heap_setCell (heap_setCell (heap_setCell (heap_setCell h 0 _) 1 _) 2 _) 3 _) 4 _) 5 _]
  rfl
set_option maxHeartbeats 8000000 in
set_option maxRecDepth 100000 in
theorem whole_any {p : Option Addr} {cap : Nat} {d : List Int} {w : World} (hby : Bytes d) (h32 : ∀ i, i < d.length → 32 ≤ d.getD i 0) (hnn : NoNum d) (hl : d.length ≤ 100000) (hd : Bs w p d) :
    Calls Tryz.prog 30 #[.slice p d.length cap, .int .i64 1073741824] w (WholeQ d w) := by
  obtain ⟨B, hB⟩ : ∃ B, w.heap.size = B := ⟨_, rfl⟩
  have HC := Lib.hid (value_any hby h32 hnn hl (d.length + 1))
  have HD := Lib.hid hd
  have HBB := Lib.hid hB
  have hb0 : Below B w (w.alloc (.cells #[.int .i64 0, .int .i64 0, .int .i64 0, .slice none 0 0, .slice none 0 0, .slice none 0 0] 71)) := by rw [← hB]; exact (Below.refl _ w).alloc (Nat.le_refl _) _
  have hz0 : (w.alloc (.cells #[.int .i64 0, .int .i64 0, .int .i64 0, .slice none 0 0, .slice none 0 0, .slice none 0 0] 71)).heap[B]? = some (.cells #[.int .i64 0, .int .i64 0, .int .i64 0, .slice none 0 0, .slice none 0 0, .slice none 0 0] 71 (0, 0)) := by rw [← hB]; exact heap_alloc_new w _
  have hd0 := hd.below (hb0.mono (Nat.le_of_eq hB))
  have HB0 := Lib.hid hb0
  have HZ0 := Lib.hid hz0
  have HVC := Lib.hid (HC.out p cap 0 1073741824 (w.alloc (.cells #[.int .i64 0, .int .i64 0, .int .i64 0, .slice none 0 0, .slice none 0 0, .slice none 0 0] 71)) hd0 (by omega) (by omega) (by omega) (by omega))
  clear hby h32 hnn hd hb0 hz0 hd0 HC
  go_enter Tryz.func30, Tryz.ntmps30
  go_upto_region 2 with (go_at_call 41; refine HVC.out.mono ?_; rintro e w2 ⟨kd, fr, up, p3, l3, c3', p4, l4, c4', p5, l5, c5', ok, rfl, hu1, hu2, hu3, hu4, hk⟩; have HU4 := Lib.hid hu4; have HK := Lib.hid hk; clear hu4 hk)
  have hz1 : w2.heap[B]? = some (.cells #[.int .i64 0, .int .i64 0, .int .i64 0, .slice none 0 0, .slice none 0 0, .slice none 0 0] 71 (0, 0)) := (HK.out.block B (lt_heap HZ0.out)).trans HZ0.out
  have hb1 : Below B w w2 := HB0.out.trans (HK.out.mono (by have := lt_heap HZ0.out; omega))
  have hBV : B < w2.heap.size := lt_heap hz1
  have hz2 := (heap_alloc_lt (w := w2) (o := (.cells #[.int .i64 kd, .int .i64 fr, .int .i64 (up : Nat), .slice p3 l3 c3', .slice p4 l4 c4', .slice p5 l5 c5'] 71)) hBV).trans hz1
  have hb2 := hb1.alloc (show B ≤ w2.heap.size by omega) (.cells #[.int .i64 kd, .int .i64 fr, .int .i64 (up : Nat), .slice p3 l3 c3', .slice p4 l4 c4', .slice p5 l5 c5'] 71)
  have hv2 := heap_alloc_new w2 (.cells #[.int .i64 kd, .int .i64 fr, .int .i64 (up : Nat), .slice p3 l3 c3', .slice p4 l4 c4', .slice p5 l5 c5'] 71)
  clear hz1 hb1 HK HZ0 HB0 HVC
  generalize w2.alloc (.cells #[.int .i64 kd, .int .i64 fr, .int .i64 (up : Nat), .slice p3 l3 c3', .slice p4 l4 c4', .slice p5 l5 c5'] 71) = w3 at hz2 hb2 hv2 ⊢
  generalize w2.heap.size = V at hBV hv2 ⊢
  have z0 := cell_of_heap hz2 0 rfl
  have z1 := cell_of_heap hz2 1 rfl
  have z2 := cell_of_heap hz2 2 rfl
  have z3 := cell_of_heap hz2 3 rfl
  have z4 := cell_of_heap hz2 4 rfl
  have z5 := cell_of_heap hz2 5 rfl
  have f0 := free_of_heap hz2 0
  have f1 := free_of_heap hz2 1
  have f2 := free_of_heap hz2 2
  have f3 := free_of_heap hz2 3
  have f4 := free_of_heap hz2 4
  have f5 := free_of_heap hz2 5
  have v0 := cell_of_heap hv2 0 rfl
  have v1 := cell_of_heap hv2 1 rfl
  have v2 := cell_of_heap hv2 2 rfl
  have v3 := cell_of_heap hv2 3 rfl
  have v4 := cell_of_heap hv2 4 rfl
  have v5 := cell_of_heap hv2 5 rfl
  have y2 := free_of_heap hv2 2
  have ltV : V < w3.heap.size := lt_heap hv2
  have nV : ¬ B = V := by omega
  have nV2 : ¬ V = B := by omega
  have HZ := Lib.hid hz2
  have HBy := Lib.hid hb2
  have HV := Lib.hid hv2
  clear hz2 hb2 hv2
  have HTX : Hid (Txt d → ok = true ∧ Bl d up d.length) := by
    rintro ⟨r, q, h1, h2, h3⟩
    obtain ⟨h4, rfl⟩ := HU4.out q ⟨r, h1, h2⟩
    exact ⟨h4, h3⟩
  cases ok
  case false =>
    go_wp2
    refine bodyPost_ret (v := .tuple #[.agg #[.int .i64 kd, .int .i64 fr, .int .i64 (up : Nat), .slice p3 l3 c3', .slice p4 l4 c4', .slice p5 l5 c5'], .bool false]) (results_cell_row_tmp (p := 4) (u := 5) (ty := 71) rfl _ _ B 71 _ (0, 0) _ rfl (set6_row HZ.out _ _ _ _ _ _) Tryz.underlying71 rfl (by kernel_rfl)) rfl ⟨_, _, _, _, _, _, _, _, _, _, _, _, _, rfl, (fun h => (HTX.out h).1), (below_set6 (HBy.out) _ _ _ _ _ _).mono (Nat.le_of_eq HBB.out)⟩
  case true =>
    have HDx := Lib.hid (HD.out.below (HBy.out.mono (Nat.le_of_eq HBB.out)))
    go_upto_region 5 with (go_at_call 42; refine (blanks_any (at' := up) HDx.out hl hu2).mono ?_; rintro e w4 ⟨r, rfl, hb1, rfl⟩; have HB1 := Lib.hid hb1; have hr1 := hb1.1.1; have hr2 := hb1.1.2.1; clear hb1)
    by_cases hlt : r < d.length
    case neg =>
      have hlt' : ¬ (r : Int) < (d.length : Int) := by omega
      go_wp2
      refine bodyPost_ret (v := .tuple #[.agg #[.int .i64 kd, .int .i64 fr, .int .i64 (up : Nat), .slice p3 l3 c3', .slice p4 l4 c4', .slice p5 l5 c5'], .bool true]) (results_cell_row_tmp (p := 4) (u := 5) (ty := 71) rfl _ _ B 71 _ (0, 0) _ rfl (set6_row HZ.out _ _ _ _ _ _) Tryz.underlying71 rfl (by kernel_rfl)) rfl ⟨_, _, _, _, _, _, _, _, _, _, _, _, _, rfl, (fun _ => rfl), (below_set6 (HBy.out) _ _ _ _ _ _).mono (Nat.le_of_eq HBB.out)⟩
    case pos =>
      have hlt' : (r : Int) < (d.length : Int) := by omega
      go_wp2
      refine bodyPost_ret (v := .tuple #[.agg #[.int .i64 kd, .int .i64 fr, .int .i64 (r : Nat), .slice p3 l3 c3', .slice p4 l4 c4', .slice p5 l5 c5'], .bool false]) (results_cell_row_tmp (p := 4) (u := 5) (ty := 71) rfl _ _ B 71 _ (0, 0) _ rfl (set6_row ((heap_setCell_other (w := w3) 2 _ nV).trans HZ.out) _ _ _ _ _ _) Tryz.underlying71 rfl (by kernel_rfl)) rfl ⟨_, _, _, _, _, _, _, _, _, _, _, _, _, rfl, (fun h => absurd (HB1.out.eq (HTX.out h).2 (fun h => absurd h (Nat.lt_irrefl _))) (by omega)), (below_set6 (below_setN HBy.out (show B ≤ V by omega) 2 _) _ _ _ _ _ _).mono (Nat.le_of_eq HBB.out)⟩
def IsQ (P : Bool → Prop) (w : World) (e : Ending) (w' : World) : Prop := ∃ ok : Bool, e = .returned (.bool ok) ∧ P ok ∧ Below w.heap.size w w'
set_option maxHeartbeats 4000000 in
set_option maxRecDepth 100000 in
theorem isText_any {p : Option Addr} {cap : Nat} {d : List Int} {w : World} (hby : Bytes d) (h32 : ∀ i, i < d.length → 32 ≤ d.getD i 0) (hnn : NoNum d) (hl : d.length ≤ 100000) (hd : Bs w p d) :
    Calls Tryz.prog 21 #[.slice p d.length cap] w (IsQ (fun ok => Txt d → ok = true) w) := by
  have HC := Lib.hid (whole_any (cap := cap) hby h32 hnn hl hd)
  clear hby h32 hnn hd
  go_enter Tryz.func21, Tryz.ntmps21
  go_wp2_with (go_at_call 30; refine HC.out.mono ?_; rintro e w2 ⟨kd, fr, up, p3, l3, c3', p4, l4, c4', p5, l5, c5', ok, rfl, hu4, hk⟩; have HU4 := Lib.hid hu4; have HK := Lib.hid hk; clear hu4 hk)
  go_ret
  exact ⟨ok, rfl, HU4.out, HK.out.alloc HK.out.size _⟩
end Go.Proofs.YtaecbclonmhbcaaGreatDoor

namespace Go.Proofs.YtaecbclonmhbcaaGreatDoor
open Go.RowKit
def PointQ (d : List Int) (at' : Nat) (w : World) (e : Ending) (w' : World) : Prop := ∃ (n : Int) (k : Nat), e = .returned (.tuple #[.int .i64 n, .int .i64 k]) ∧ 1 ≤ k ∧ at' + k ≤ d.length ∧ Below w.heap.size w w'
set_option maxHeartbeats 8000000 in
set_option maxRecDepth 100000 in
theorem point_any {p : Option Addr} {cap at' : Nat} {d : List Int} {w : World} (hd : Bs w p d) (hby : Bytes d) (hl : d.length ≤ 100000) (ha : at' < d.length) :
    Calls Tryz.prog 101 #[.slice p d.length cap, .int .i64 at'] w (PointQ d at' w) := by
  obtain ⟨bd, off, rfl, hbd, hc⟩ := hd (by omega)
  have q0 := hc at' ha
  have hb := hby at'
  obtain ⟨c, hcc⟩ : ∃ c, d.getD at' 0 = c := ⟨_, rfl⟩
  rw [hcc] at q0 hb
  have HC := Lib.hid hc
  have HBY := Lib.hid hby
  have HKW : Hid (∀ n, Below w.heap.size w (w.drewN n)) := fun n => ⟨rfl, rfl, rfl, Nat.le_refl _, fun _ _ => rfl⟩
  clear hc hby hcc hd
  have ha' : (at' : Int) < (d.length : Int) := by omega
  go_enter Tryz.func101, Tryz.ntmps101
  by_cases c1 : c < 128
  case pos =>
    go_wp2
    go_ret2
    exact ⟨_, 1, rfl, by omega, by omega, HKW.out 0⟩
  case neg =>
  by_cases c2 : 192 ≤ c
  case neg =>
    have c3 : ¬ 224 ≤ c := by omega
    have c4 : ¬ 240 ≤ c := by omega
    go_wp2
    go_ret2
    exact ⟨_, 1, rfl, by omega, by omega, HKW.out 0⟩
  case pos =>
  by_cases c3 : c < 224
  case pos =>
    by_cases hs : at' + 2 ≤ d.length
    case neg =>
      have hs' : (d.length : Int) < (at' : Int) + 2 := by omega
      go_wp2
      go_ret2
      exact ⟨_, 1, rfl, by omega, by omega, HKW.out 0⟩
    case pos =>
      have hs' : ¬ (d.length : Int) < (at' : Int) + 2 := by omega
      go_wp2
      go_loopg [8, 10] 1 (fun g v8 v10 wr => ∃ (k : Nat) (x : Int), g + k = 2 ∧ v10 = .int .i64 k ∧ v8 = .int .i64 x ∧ 1 ≤ k ∧ k ≤ 2 ∧ (∃ n, wr = w.drewN n))
      case atStart => exact ⟨1, _, rfl, rfl, rfl, by omega, by omega, 0, rfl⟩
      case round =>
        obtain ⟨k, x, hg, rfl, rfl, hk1, hk2, nn, rfl⟩ := hrel
        by_cases hks : k < 2
        case neg =>
          have hks' : ¬ (k : Int) < 2 := by omega
          go_wp2_with (go_at_call 45; refine (half_any x _).mono ?_; rintro e w4 ⟨rfl, rfl⟩)
          all_goals
            go_ret2
            first
              | exact ⟨_, 1, rfl, by omega, by omega, HKW.out _⟩
              | exact ⟨_, 2, rfl, by omega, hs, HKW.out _⟩
        case pos =>
          have hks' : (k : Int) < 2 := by omega
          have q1 := (HKW.out nn).cell (p := ⟨bd, off + (at' + k), none⟩) hbd |>.trans (HC.out (at' + k) (by omega))
          have hb1 := HBY.out (at' + k)
          obtain ⟨b, hbb⟩ : ∃ b, d.getD (at' + k) 0 = b := ⟨_, rfl⟩
          rw [hbb] at q1 hb1
          clear hbb
          have hak : (at' : Int) + (k : Int) < (d.length : Int) := by omega
          have hak0 : (0 : Int) ≤ (at' : Int) + (k : Int) := by omega
          have hakn : ((at' : Int) + (k : Int)).toNat = at' + k := by omega
          go_upto_region 19 with fail
          rotate_left
          case' _ =>
            go_wp2
            go_roundg (gk - 1)
            case measure => omega
            case rel => exact ⟨k + 1, _, by omega, by go_num, rfl, by omega, by omega, nn, rfl⟩
          all_goals
            go_ret2
            exact ⟨_, 1, rfl, by omega, by omega, HKW.out _⟩
  case neg =>
  have c3' : 224 ≤ c := by omega
  by_cases c4 : c < 240
  case pos =>
    by_cases hs : at' + 3 ≤ d.length
    case neg =>
      have hs' : (d.length : Int) < (at' : Int) + 3 := by omega
      go_wp2
      go_ret2
      exact ⟨_, 1, rfl, by omega, by omega, HKW.out 0⟩
    case pos =>
      have hs' : ¬ (d.length : Int) < (at' : Int) + 3 := by omega
      go_wp2
      go_loopg [8, 10] 2 (fun g v8 v10 wr => ∃ (k : Nat) (x : Int), g + k = 3 ∧ v10 = .int .i64 k ∧ v8 = .int .i64 x ∧ 1 ≤ k ∧ k ≤ 3 ∧ (∃ n, wr = w.drewN n))
      case atStart => exact ⟨1, _, rfl, rfl, rfl, by omega, by omega, 0, rfl⟩
      case round =>
        obtain ⟨k, x, hg, rfl, rfl, hk1, hk2, nn, rfl⟩ := hrel
        by_cases hks : k < 3
        case neg =>
          have hks' : ¬ (k : Int) < 3 := by omega
          go_wp2_with (go_at_call 45; refine (half_any x _).mono ?_; rintro e w4 ⟨rfl, rfl⟩)
          all_goals
            go_ret2
            first
              | exact ⟨_, 1, rfl, by omega, by omega, HKW.out _⟩
              | exact ⟨_, 3, rfl, by omega, hs, HKW.out _⟩
        case pos =>
          have hks' : (k : Int) < 3 := by omega
          have q1 := (HKW.out nn).cell (p := ⟨bd, off + (at' + k), none⟩) hbd |>.trans (HC.out (at' + k) (by omega))
          have hb1 := HBY.out (at' + k)
          obtain ⟨b, hbb⟩ : ∃ b, d.getD (at' + k) 0 = b := ⟨_, rfl⟩
          rw [hbb] at q1 hb1
          clear hbb
          have hak : (at' : Int) + (k : Int) < (d.length : Int) := by omega
          have hak0 : (0 : Int) ≤ (at' : Int) + (k : Int) := by omega
          have hakn : ((at' : Int) + (k : Int)).toNat = at' + k := by omega
          go_upto_region 19 with fail
          rotate_left
          case' _ =>
            go_wp2
            go_roundg (gk - 1)
            case measure => omega
            case rel => exact ⟨k + 1, _, by omega, by go_num, rfl, by omega, by omega, nn, rfl⟩
          all_goals
            go_ret2
            exact ⟨_, 1, rfl, by omega, by omega, HKW.out _⟩
  case neg =>
  have c4' : 240 ≤ c := by omega
  by_cases c5 : c < 248
  case pos =>
    by_cases hs : at' + 4 ≤ d.length
    case neg =>
      have hs' : (d.length : Int) < (at' : Int) + 4 := by omega
      go_wp2
      go_ret2
      exact ⟨_, 1, rfl, by omega, by omega, HKW.out 0⟩
    case pos =>
      have hs' : ¬ (d.length : Int) < (at' : Int) + 4 := by omega
      go_wp2
      go_loopg [8, 10] 3 (fun g v8 v10 wr => ∃ (k : Nat) (x : Int), g + k = 4 ∧ v10 = .int .i64 k ∧ v8 = .int .i64 x ∧ 1 ≤ k ∧ k ≤ 4 ∧ (∃ n, wr = w.drewN n))
      case atStart => exact ⟨1, _, rfl, rfl, rfl, by omega, by omega, 0, rfl⟩
      case round =>
        obtain ⟨k, x, hg, rfl, rfl, hk1, hk2, nn, rfl⟩ := hrel
        by_cases hks : k < 4
        case neg =>
          have hks' : ¬ (k : Int) < 4 := by omega
          go_wp2_with (go_at_call 45; refine (half_any x _).mono ?_; rintro e w4 ⟨rfl, rfl⟩)
          all_goals
            go_ret2
            first
              | exact ⟨_, 1, rfl, by omega, by omega, HKW.out _⟩
              | exact ⟨_, 4, rfl, by omega, hs, HKW.out _⟩
        case pos =>
          have hks' : (k : Int) < 4 := by omega
          have q1 := (HKW.out nn).cell (p := ⟨bd, off + (at' + k), none⟩) hbd |>.trans (HC.out (at' + k) (by omega))
          have hb1 := HBY.out (at' + k)
          obtain ⟨b, hbb⟩ : ∃ b, d.getD (at' + k) 0 = b := ⟨_, rfl⟩
          rw [hbb] at q1 hb1
          clear hbb
          have hak : (at' : Int) + (k : Int) < (d.length : Int) := by omega
          have hak0 : (0 : Int) ≤ (at' : Int) + (k : Int) := by omega
          have hakn : ((at' : Int) + (k : Int)).toNat = at' + k := by omega
          go_upto_region 19 with fail
          rotate_left
          case' _ =>
            go_wp2
            go_roundg (gk - 1)
            case measure => omega
            case rel => exact ⟨k + 1, _, by omega, by go_num, rfl, by omega, by omega, nn, rfl⟩
          all_goals
            go_ret2
            exact ⟨_, 1, rfl, by omega, by omega, HKW.out _⟩
  case neg =>
    go_wp2
    go_ret2
    exact ⟨_, 1, rfl, by omega, by omega, HKW.out 0⟩
set_option maxHeartbeats 8000000 in
set_option maxRecDepth 100000 in
theorem isUTF8_any {p : Option Addr} {cap : Nat} {d : List Int} {w : World} (hd : Bs w p d) (hby : Bytes d) (hl : d.length ≤ 100000) :
    Calls Tryz.prog 43 #[.slice p d.length cap] w (IsQ (fun _ => True) w) := by
  have HD := Lib.hid hd
  have HBY := Lib.hid hby
  have HB0 : Hid (Below w.heap.size w w) := Below.refl _ w
  clear hd hby
  go_enter Tryz.func43, Tryz.ntmps43
  go_wp2
  go_loopg [3] d.length (fun gk v3 wr => ∃ k : Nat, gk + k = d.length ∧ v3 = .int .i64 k ∧ k ≤ d.length ∧ Below w.heap.size w wr)
  case atStart => exact ⟨0, rfl, rfl, Nat.zero_le _, HB0.out⟩
  case round =>
    obtain ⟨k, hg, rfl, hk, hb⟩ := hrel
    have HB := Lib.hid hb
    clear hb
    by_cases hlt : k < d.length
    case neg =>
      have hlt' : ¬ (k : Int) < (d.length : Int) := by omega
      go_wp2
      go_ret
      exact ⟨true, rfl, trivial, HB.out⟩
    case pos =>
      have hlt' : (k : Int) < (d.length : Int) := by omega
      go_upto_region 4 with (go_at_call 101; refine (point_any (HD.out.below HB.out) HBY.out hl hlt).mono ?_; rintro e w3 ⟨n, s, rfl, hs1, hs2, hkb⟩; have HB3 := Lib.hid (HB.out.trans (hkb.mono HB.out.size)); clear hkb)
      by_cases hn : n < 0
      case pos =>
        go_wp2
        go_ret
        exact ⟨false, rfl, trivial, HB3.out⟩
      case neg =>
        go_wp2
        go_roundg (gk - s)
        case measure => omega
        case rel => exact ⟨k + s, by omega, by go_num, by omega, HB3.out⟩
end Go.Proofs.YtaecbclonmhbcaaGreatDoor

namespace Go.Proofs.YtaecbclonmhbcaaGreatDoor
open Go.RowKit
set_option maxHeartbeats 8000000 in
set_option maxRecDepth 100000 in
theorem isClean_any {p : Option Addr} {cap : Nat} {d : List Int} {w : World} (hd : Bs w p d) (hby : Bytes d) (hl : d.length ≤ 100000) :
    Calls Tryz.prog 31 #[.slice p d.length cap] w (IsQ (fun _ => True) w) := by
  have HD := Lib.hid hd
  have HBY := Lib.hid hby
  have HDN : Hid (∀ (W : World) (n : Nat), Below w.heap.size w W → Below w.heap.size w (W.drewN n)) := fun W n h => h.trans ⟨rfl, rfl, rfl, Nat.le_refl _, fun _ _ => rfl⟩
  have HU := Lib.hid (isUTF8_any (cap := cap) hd hby hl)
  clear hd hby
  go_enter Tryz.func31, Tryz.ntmps31
  go_upto_if 10 with (go_at_call 43; refine HU.out.mono ?_; rintro e w1 ⟨ok, rfl, -, hb1⟩; have HB1 := Lib.hid hb1; clear hb1)
  cases ok
  case false =>
    go_wp2
    all_goals
      go_ret
      exact ⟨false, rfl, trivial, (by first | exact HB1.out | exact HDN.out _ _ HB1.out)⟩
  case true =>
  go_wp2
  go_loopg [3] (d.length + 1) (fun gk v3 wr => ∃ k : Nat, gk + k = d.length + 1 ∧ v3 = .int .i64 k ∧ k ≤ d.length + 1 ∧ Below w.heap.size w wr)
  case atStart => exact ⟨0, rfl, rfl, Nat.zero_le _, HB1.out⟩
  case round =>
    obtain ⟨k, hg, rfl, hk, hb⟩ := hrel
    have HB := Lib.hid hb
    clear hb
    by_cases hlt : k < d.length
    case neg =>
      have hlt' : ¬ (k : Int) < (d.length : Int) := by omega
      go_wp2
      all_goals
        go_ret
        exact ⟨true, rfl, trivial, (by first | exact HB.out | exact HDN.out _ _ HB.out)⟩
    case pos =>
    have hlt' : (k : Int) < (d.length : Int) := by omega
    obtain ⟨bd, off, rfl, hbd, hc⟩ := HD.out (by omega)
    have q0 := (HB.out.cell (p := ⟨bd, off + k, none⟩) hbd).trans (hc k hlt)
    have HC := Lib.hid hc
    clear hc
    obtain ⟨c, hcc⟩ : ∃ c, d.getD k 0 = c := ⟨_, rfl⟩
    rw [hcc] at q0
    clear hcc
    by_cases h32 : c < 32
    case pos =>
      go_wp2
      all_goals
        go_ret
        exact ⟨false, rfl, trivial, (by first | exact HB.out | exact HDN.out _ _ HB.out)⟩
    case neg =>
    by_cases h92 : c = 92
    case neg =>
      have e1 : (c != 92) = true := bne_iff_ne.2 h92
      have e2 : (c == 92) = false := beq_eq_false_iff_ne.2 h92
      go_wp2
      all_goals
        go_roundg (gk - (1))
        case measure => omega
        case rel => exact ⟨k + 1, by omega, by go_num, by omega, (by first | exact HB.out | exact HDN.out _ _ HB.out)⟩
    case pos =>
    subst h92
    by_cases hlt1 : k + 1 < d.length
    case neg =>
      have hge1 : (d.length : Int) ≤ (k : Int) + 1 := by omega
      go_wp2
      all_goals
        go_roundg (gk - (2))
        case measure => omega
        case rel => exact ⟨k + 2, by omega, by go_num, by omega, (by first | exact HB.out | exact HDN.out _ _ HB.out)⟩
    case pos =>
    have hge1 : ¬ (d.length : Int) ≤ (k : Int) + 1 := by omega
    have hlt1' : (k : Int) + 1 < (d.length : Int) := by omega
    have hnn1 : (0 : Int) ≤ (k : Int) + 1 := by omega
    have htn1 : ((k : Int) + 1).toNat = k + 1 := by omega
    have q1 := (HB.out.cell (p := ⟨bd, off + (k + 1), none⟩) hbd).trans (HC.out (k + 1) hlt1)
    obtain ⟨c1, hcc⟩ : ∃ c1, d.getD (k + 1) 0 = c1 := ⟨_, rfl⟩
    rw [hcc] at q1
    clear hcc
    by_cases h117 : c1 = 117
    case neg =>
      have e1 : (c1 != 117) = true := bne_iff_ne.2 h117
      have e2 : (c1 == 117) = false := beq_eq_false_iff_ne.2 h117
      go_wp2
      all_goals
        go_roundg (gk - (2))
        case measure => omega
        case rel => exact ⟨k + 2, by omega, by go_num, by omega, (by first | exact HB.out | exact HDN.out _ _ HB.out)⟩
    case pos =>
    subst h117
    go_upto_region 12 with (go_at_call 44; refine (four_any (at' := k + 2) (HD.out.below HB.out) HBY.out hl (by omega)).mono ?_; rintro e w3 ⟨n, q, rfl, v0, v1, v2, v3, v4, v5, hk4⟩; have HB3 := Lib.hid (HB.out.trans ((below_of_kept hk4).mono HB.out.size)); clear hk4 v4 v5)
    obtain ⟨h, hh⟩ : ∃ h, halfV n = h := ⟨_, rfl⟩
    have HH := Lib.hid hh
    clear hh q0 q1
    by_cases hn : n < 0
    case pos =>
      go_wp2
      all_goals
        go_roundg (gk - (2))
        case measure => omega
        case rel => exact ⟨k + 2, by omega, by go_num, by omega, (by first | exact HB3.out | exact HDN.out _ _ HB3.out)⟩
    case neg =>
    by_cases h0 : h = 0
    case pos =>
      subst h0
      go_wp2_with (first | (go_at_call 45; refine (half_any n _).mono ?_; rintro e w4 ⟨rfl, rfl⟩; rw [HH.out]))
      all_goals
        go_roundg (gk - (2))
        case measure => omega
        case rel => exact ⟨k + 2, by omega, by go_num, by omega, (by first | exact HB3.out | exact HDN.out _ _ HB3.out)⟩
    case neg =>
    have e0 : (h == 0) = false := beq_eq_false_iff_ne.2 h0
    by_cases hneg : h < 0
    case pos =>
      go_wp2_with (first | (go_at_call 45; refine (half_any n _).mono ?_; rintro e w4 ⟨rfl, rfl⟩; rw [HH.out]))
      all_goals
        go_ret
        exact ⟨false, rfl, trivial, (by first | exact HB3.out | exact HDN.out _ _ HB3.out)⟩
    case neg =>
    by_cases hl7 : q + 1 < d.length
    case neg =>
      have hl7' : (d.length : Int) ≤ (q : Int) + 1 := by omega
      go_wp2_with (first | (go_at_call 45; refine (half_any n _).mono ?_; rintro e w4 ⟨rfl, rfl⟩; rw [HH.out]))
      all_goals
        go_ret
        exact ⟨false, rfl, trivial, (by first | exact HB3.out | exact HDN.out _ _ HB3.out)⟩
    case pos =>
    have hl7' : ¬ (d.length : Int) ≤ (q : Int) + 1 := by omega
    have hl8' : (q : Int) + 1 < (d.length : Int) := by omega
    have hl6' : (q : Int) < (d.length : Int) := by omega
    have hnn7 : (0 : Int) ≤ (q : Int) + 1 := by omega
    have htn7 : ((q : Int) + 1).toNat = q + 1 := by omega
    have q6 := (HB3.out.cell (p := ⟨bd, off + q, none⟩) hbd).trans (HC.out q (by omega))
    have q7 := (HB3.out.cell (p := ⟨bd, off + (q + 1), none⟩) hbd).trans (HC.out (q + 1) hl7)
    obtain ⟨d6, h6⟩ : ∃ d6, d.getD q 0 = d6 := ⟨_, rfl⟩
    obtain ⟨d7, h7⟩ : ∃ d7, d.getD (q + 1) 0 = d7 := ⟨_, rfl⟩
    rw [h6] at q6
    rw [h7] at q7
    clear h6 h7
    by_cases e6 : d6 = 92
    case neg =>
      have x6 : (d6 != 92) = true := bne_iff_ne.2 e6
      have y6 : (d6 == 92) = false := beq_eq_false_iff_ne.2 e6
      go_wp2_with (first | (go_at_call 45; refine (half_any n _).mono ?_; rintro e w4 ⟨rfl, rfl⟩; rw [HH.out]))
      all_goals
        go_ret
        exact ⟨false, rfl, trivial, (by first | exact HB3.out | exact HDN.out _ _ HB3.out)⟩
    case pos =>
    subst e6
    by_cases e7 : d7 = 117
    case neg =>
      have x7 : (d7 != 117) = true := bne_iff_ne.2 e7
      have y7 : (d7 == 117) = false := beq_eq_false_iff_ne.2 e7
      go_wp2_with (first | (go_at_call 45; refine (half_any n _).mono ?_; rintro e w4 ⟨rfl, rfl⟩; rw [HH.out]))
      all_goals
        go_ret
        exact ⟨false, rfl, trivial, (by first | exact HB3.out | exact HDN.out _ _ HB3.out)⟩
    case pos =>
    subst e7
    have HDx : Hid (∀ (W : World), Below w.heap.size w W → Bs W (some ⟨bd, off, none⟩) d) := fun W h => HD.out.below h
    go_upto_region 16 with (first
      | (go_at_call 45; refine (half_any n _).mono ?_; rintro e w4 ⟨rfl, rfl⟩; rw [HH.out])
      | (go_at_call 44; refine (four_any (at' := q + 2) (HDx.out _ HB3.out) HBY.out hl (by omega)).mono ?_; rintro e w5 ⟨m, q5, rfl, m0, m1, m2, m3, m4, m5, hk5⟩; have HB5 := Lib.hid (HB3.out.trans ((below_of_kept hk5).mono HB3.out.size)); clear hk5 m4 m5))
    obtain ⟨h2, hm⟩ : ∃ h2, halfV m = h2 := ⟨_, rfl⟩
    have HM := Lib.hid hm
    clear hm q6 q7
    by_cases hmn : m < 0
    case pos =>
      go_wp2
      all_goals
        go_ret
        exact ⟨false, rfl, trivial, (by first | exact HB5.out | exact HDN.out _ _ HB5.out)⟩
    case neg =>
    by_cases hh2 : 0 ≤ h2
    case pos =>
      go_wp2_with (first | (go_at_call 45; refine (half_any m _).mono ?_; rintro e w4 ⟨rfl, rfl⟩; rw [HM.out]))
      all_goals
        go_ret
        exact ⟨false, rfl, trivial, (by first | exact HB5.out | exact HDN.out _ _ HB5.out)⟩
    case neg =>
      go_wp2_with (first | (go_at_call 45; refine (half_any m _).mono ?_; rintro e w4 ⟨rfl, rfl⟩; rw [HM.out]))
      all_goals
        go_roundg (gk - (q5 - k))
        case measure => omega
        case rel => exact ⟨q5, by omega, by go_num, by omega, (by first | exact HB5.out | exact HDN.out _ _ HB5.out)⟩
end Go.Proofs.YtaecbclonmhbcaaGreatDoor

namespace Go.Proofs.YtaecbclonmhbcaaGreatDoor
open Go.RowKit
theorem part_getD (d : List Int) (a n i : Nat) (hi : i < n) : ((d.drop a).take n).getD i 0 = d.getD (a + i) 0 := by
  simp only [List.getD_eq_getElem?_getD, List.getElem?_take, hi, if_true, List.getElem?_drop]
theorem part_bytes {d : List Int} (h : Bytes d) (a n : Nat) : Bytes ((d.drop a).take n) := fun i => by
  by_cases hi : i < n
  · rw [part_getD d a n i hi]; exact h (a + i)
  · rw [List.getD_eq_getElem?_getD, List.getElem?_take, if_neg hi]; exact ⟨by decide, by decide⟩
theorem part_len {d : List Int} {a e : Nat} (h : e ≤ d.length) : ((d.drop a).take (e - a)).length = e - a := by simp; omega
theorem part_clean {d : List Int} {W : World} {bd off a e c : Nat} (hd : Bs W (some ⟨bd, off, none⟩) d) (hby : Bytes d) (hl : d.length ≤ 100000) (ha : a ≤ e) (he : e ≤ d.length) :
    Calls Tryz.prog 31 #[.slice (some ⟨bd, off + a, none⟩) (e - a) c] W (IsQ (fun _ => True) W) := by
  have hb : Bs W (some ⟨bd, off + a, none⟩) ((d.drop a).take (e - a)) := fun h0 => by
    rw [part_len he] at h0
    obtain ⟨bd', off', hp, h1, h2⟩ := hd (by omega)
    cases hp
    refine ⟨bd, off + a, rfl, h1, fun i hi => ?_⟩
    rw [part_len he] at hi
    rw [part_getD d a (e - a) i hi, Nat.add_assoc]
    exact h2 (a + i) (by omega)
  have h := isClean_any (cap := c) hb (part_bytes hby _ _) (by rw [part_len he]; omega)
  rw [part_len he] at h
  exact h
theorem cut_clean {d : List Int} {W : World} {bd off k e cap n c : Nat} {p : Option Addr} (hd : Bs W (some ⟨bd, off, none⟩) d) (hby : Bytes d) (hl : d.length ≤ 100000) (ha : k + 1 ≤ e) (he : e ≤ d.length) (hcap : d.length ≤ cap)
    (hn : n = e - (k + 1)) (hp : p = some ⟨bd, off + (k + 1), none⟩ ∨ cap = k + 1) : Calls Tryz.prog 31 #[.slice p n c] W (IsQ (fun _ => True) W) := by
  subst hn
  rcases hp with rfl | hc
  · exact part_clean hd hby hl ha he
  · have h0 : e - (k + 1) = 0 := by omega
    rw [h0]
    exact isClean_any (p := p) (cap := c) (d := []) (fun h => absurd h (by simp)) (fun i => by simp) (by simp)
set_option maxHeartbeats 8000000 in
set_option maxRecDepth 100000 in
theorem clean_any {p : Option Addr} {cap : Nat} {d : List Int} {w : World} (hd : Bs w p d) (hby : Bytes d) (hl : d.length ≤ 100000) (hcap : d.length ≤ cap) :
    Calls Tryz.prog 22 #[.slice p d.length cap] w (IsQ (fun _ => True) w) := by
  have HD := Lib.hid hd
  have HBY := Lib.hid hby
  have HB0 : Hid (Below w.heap.size w w) := Below.refl _ w
  clear hd hby
  go_enter Tryz.func22, Tryz.ntmps22
  go_wp2
  go_loopg [3] (d.length + 1) (fun gk v3 wr => ∃ k : Nat, gk + k = d.length + 1 ∧ v3 = .int .i64 k ∧ k ≤ d.length + 1 ∧ Below w.heap.size w wr)
  case atStart => exact ⟨0, rfl, rfl, Nat.zero_le _, HB0.out⟩
  case round =>
    obtain ⟨k, hg, rfl, hk, hb⟩ := hrel
    have HB := Lib.hid hb
    clear hb
    by_cases hlt : k < d.length
    case neg =>
      have hlt' : ¬ (k : Int) < (d.length : Int) := by omega
      go_wp2
      go_ret
      exact ⟨true, rfl, trivial, HB.out⟩
    case pos =>
    have hlt' : (k : Int) < (d.length : Int) := by omega
    obtain ⟨bd, off, rfl, hbd, hc⟩ := HD.out (by omega)
    have q0 := (HB.out.cell (p := ⟨bd, off + k, none⟩) hbd).trans (hc k hlt)
    have HC := Lib.hid hc
    clear hc
    obtain ⟨c, hcc⟩ : ∃ c, d.getD k 0 = c := ⟨_, rfl⟩
    rw [hcc] at q0
    clear hcc
    by_cases h34 : c = 34
    case neg =>
      have e1 : (c != 34) = true := bne_iff_ne.2 h34
      have e2 : (c == 34) = false := beq_eq_false_iff_ne.2 h34
      go_wp2
      go_roundg (gk - 1)
      case measure => omega
      case rel => exact ⟨k + 1, by omega, by go_num, by omega, HB.out⟩
    case pos =>
    subst h34
    go_wp2
    go_loopg [4] (d.length - k) (fun g2 v4 wx => ∃ m : Nat, g2 + m = d.length + 1 ∧ v4 = .int .i64 m ∧ k + 1 ≤ m ∧ m ≤ d.length + 1 ∧ Below w.heap.size w wx)
    case atStart => exact ⟨k + 1, by omega, by go_num, by omega, by omega, HB.out⟩
    case round =>
      obtain ⟨m, hg2, rfl, hm1, hm2, hb⟩ := hrel
      have HB2 := Lib.hid hb
      clear hb q0
      by_cases hlm : m < d.length
      case neg =>
        have hlm' : ¬ (m : Int) < (d.length : Int) := by omega
        have hmin : min (m : Int) (d.length : Int) = (d.length : Int) := Int.min_eq_right (by omega)
        by_cases hck : cap = k + 1
        case pos =>
          have i1 : cap ≤ k + 1 := Nat.le_of_eq hck
          have i2 : k + 1 ≤ cap := Nat.le_of_eq hck.symm
          have HCK := Lib.hid hck
          clear hck
          go_upto_if 48 with (go_at_call 31; refine (cut_clean (k := k) (e := d.length) (cap := cap) (HD.out.below HB2.out) HBY.out hl (by omega) (by omega) hcap (by first | rfl | omega) (.inr HCK.out)).mono ?_; rintro e w3 ⟨ok, rfl, -, hb3⟩; have HB3 := Lib.hid (HB2.out.trans (hb3.mono HB2.out.size)); clear hb3)
          cases ok
          case false =>
            go_wp2
            go_ret
            exact ⟨false, rfl, trivial, HB3.out⟩
          case true =>
            go_wp2
            go_roundg (d.length - d.length)
            case measure => omega
            case rel => exact ⟨d.length + 1, by omega, by go_num, by omega, HB3.out⟩

        case neg =>
          go_upto_if 48 with (go_at_call 31; refine (cut_clean (k := k) (e := d.length) (cap := cap) (HD.out.below HB2.out) HBY.out hl (by omega) (by omega) hcap (by first | rfl | omega) (.inl rfl)).mono ?_; rintro e w3 ⟨ok, rfl, -, hb3⟩; have HB3 := Lib.hid (HB2.out.trans (hb3.mono HB2.out.size)); clear hb3)
          cases ok
          case false =>
            go_wp2
            go_ret
            exact ⟨false, rfl, trivial, HB3.out⟩
          case true =>
            go_wp2
            go_roundg (d.length - d.length)
            case measure => omega
            case rel => exact ⟨d.length + 1, by omega, by go_num, by omega, HB3.out⟩
      case pos =>
        have hlm' : (m : Int) < (d.length : Int) := by omega
        have q1 := (HB2.out.cell (p := ⟨bd, off + m, none⟩) hbd).trans (HC.out m hlm)
        obtain ⟨c1, hcc⟩ : ∃ c1, d.getD m 0 = c1 := ⟨_, rfl⟩
        rw [hcc] at q1
        clear hcc
        by_cases h34 : c1 = 34
        case pos =>
          subst h34
          have hmin : min (m : Int) (d.length : Int) = (m : Int) := Int.min_eq_left (by omega)
          by_cases hck : cap = k + 1
          case pos => omega
          case neg =>
            go_upto_if 48 with (go_at_call 31; refine (cut_clean (k := k) (e := m) (cap := cap) (HD.out.below HB2.out) HBY.out hl (by omega) (by omega) hcap (by first | rfl | omega) (.inl rfl)).mono ?_; rintro e w3 ⟨ok, rfl, -, hb3⟩; have HB3 := Lib.hid (HB2.out.trans (hb3.mono HB2.out.size)); clear hb3)
            cases ok
            case false =>
              go_wp2
              go_ret
              exact ⟨false, rfl, trivial, HB3.out⟩
            case true =>
              go_wp2
              go_roundg (d.length - m)
              case measure => omega
              case rel => exact ⟨m + 1, by omega, by go_num, by omega, HB3.out⟩
        case neg =>
          have e1 : (c1 != 34) = true := bne_iff_ne.2 h34
          have e2 : (c1 == 34) = false := beq_eq_false_iff_ne.2 h34
          by_cases h92 : c1 = 92
          case pos =>
            subst h92
            go_wp2
            go_roundg (gk - 2)
            case measure => omega
            case rel => exact ⟨m + 2, by omega, by go_num, by omega, by omega, HB2.out⟩
          case neg =>
            have e3 : (c1 == 92) = false := beq_eq_false_iff_ne.2 h92
            go_wp2
            go_roundg (gk - 1)
            case measure => omega
            case rel => exact ⟨m + 1, by omega, by go_num, by omega, by omega, HB2.out⟩
end Go.Proofs.YtaecbclonmhbcaaGreatDoor

namespace Go.Proofs.YtaecbclonmhbcaaGreatDoor
open Go.RowKit
theorem cap_of_arg {w : World} {p : Option Addr} {n c : Nat} {l : List Int} (h : BytesArg w (.slice p n c) l) : l.length ≤ c := by
  rcases h with ⟨rfl, -⟩ | ⟨rfl, -⟩ | ⟨b, o, cap, hv, hc, -⟩
  · exact Nat.zero_le _
  · exact Nat.zero_le _
  · cases hv; exact hc
theorem below_dr {B : Nat} {w w' : World} (h : Below B w w') (n : Nat) : Below B w (w'.drewN n) := ⟨h.os, h.tape, h.output, h.size, h.block⟩
def Fit (c : Int) : Prop := 32 ≤ c ∧ isDig c = false ∧ c ≠ 45
set_option maxHeartbeats 1000000 in
theorem lawBlank_any (c : Int) (w : World) : Calls Tryz.prog 20 #[.int .u8 c] w fun e w' => e = .returned (.bool (isBl c)) ∧ w = w' := by
  by_cases h1 : c = 32
  · subst h1; go_enter Tryz.func20, Tryz.ntmps20; go_wp2; go_ret; exact ⟨rfl, rfl⟩
  by_cases h2 : c = 9
  · subst h2; go_enter Tryz.func20, Tryz.ntmps20; go_wp2; go_ret; exact ⟨rfl, rfl⟩
  by_cases h3 : c = 10
  · subst h3; go_enter Tryz.func20, Tryz.ntmps20; go_wp2; go_ret; exact ⟨rfl, rfl⟩
  by_cases h4 : c = 13
  · subst h4; go_enter Tryz.func20, Tryz.ntmps20; go_wp2; go_ret; exact ⟨rfl, rfl⟩
  have n1 : (c == 32) = false := beq_eq_false_iff_ne.2 h1
  have n2 : (c == 9) = false := beq_eq_false_iff_ne.2 h2
  have n3 : (c == 10) = false := beq_eq_false_iff_ne.2 h3
  have n4 : (c == 13) = false := beq_eq_false_iff_ne.2 h4
  have hb : isBl c = false := by unfold isBl; rw [n1, n2, n3, n4]; rfl
  have HB := Lib.hid hb
  clear h1 h2 h3 h4 hb
  go_enter Tryz.func20, Tryz.ntmps20
  go_wp2
  go_ret
  exact ⟨by rw [HB.out]; rfl, rfl⟩
theorem lawBlank_is (c : Int) (r : Bool) (h : isBl c = r) (w : World) : Calls Tryz.prog 20 #[.int .u8 c] w fun e w' => e = .returned (.bool r) ∧ w = w' := by
  rw [← h]; exact lawBlank_any c w
def AllFit (l : List Int) (k : Nat) : Prop := ∀ j, j < k → Fit (l.getD j 0)
theorem AllFit.noNum {l : List Int} (h : AllFit l l.length) : NoNum l := fun i => by
  by_cases hi : i < l.length
  · exact (h i hi).2
  · rw [List.getD_eq_getElem?_getD, List.getElem?_eq_none (by omega)]
    exact ⟨by decide, by decide⟩
theorem AllFit.next {l : List Int} {k : Nat} {c : Int} (h : AllFit l k) (hc : l.getD k 0 = c) (h32 : ¬ c < 32) (hd : ¬ (48 ≤ c ∧ c ≤ 57)) (h45 : c ≠ 45) : AllFit l (k + 1) := fun j hj => by
  by_cases e : j = k
  · subst e
    rw [hc]
    refine ⟨by omega, ?_, h45⟩
    unfold isDig
    rw [Bool.and_eq_false_iff, decide_eq_false_iff_not, decide_eq_false_iff_not]
    omega
  · exact h j (by omega)
set_option maxHeartbeats 16000000 in
set_option maxRecDepth 100000 in
theorem grm_walk {w : World} {ae ao : Addr} (he : Env w ⟨ae, fun _ => False⟩ ao) (h2 : 1 < w.heap.size)
    (ho : ∃ ca ta, w.heap[ao.block]? = some (.cells ca ta (0, 0))) (hea : ∃ ca ta, w.heap[ae.block]? = some (.cells ca ta (0, 0)))
    {vp : Option Addr} {vc : Nat} {l : List Int} (hv : BytesArg w (.slice vp l.length vc) l) (hby : Bytes l) (hl : l.length ≤ 8192) :
    Calls Tryz.prog 11 #[.slice vp l.length vc] w fun e w' => e = .returned (.bool true) ∧ Below w.heap.size w w' := by
  have HE := Lib.hid he
  have HO := Lib.hid ho
  have HA := Lib.hid hea
  have HV := Lib.hid hv
  have HBY := Lib.hid hby
  have HD := Lib.hid (Bs.of_arg hv)
  have HCP := Lib.hid (cap_of_arg hv)
  have HB0 : Hid (Below w.heap.size w w) := Below.refl _ w
  have HK : Hid (∀ W, Below w.heap.size w W → Calls Tryz.prog 12 #[] W fun e w' => e = .returned (.bool true) ∧ Below w.heap.size w w') := fun W hb =>
    (known_any (env_below he hb h2) (Nat.lt_of_lt_of_le h2 hb.size)).mono fun e w' h => ⟨h.1, hb.trans (h.2.mono hb.size)⟩
  have l1 : ¬ (2147483647 : Int) < l.length := by omega
  have l2 : ¬ (8192 : Int) < l.length := by omega
  clear he ho hea hv hby
  go_enter Tryz.func11, Tryz.ntmps11
  go_wp2
  go_loopg [3] (l.length + 1) (fun gk v3 wr => ∃ k : Nat, gk + k = l.length + 1 ∧ v3 = .int .i64 k ∧ k ≤ l.length ∧ AllFit l k ∧ Below w.heap.size w wr)
  case atStart => exact ⟨0, rfl, rfl, Nat.zero_le _, fun j h => absurd h (Nat.not_lt_zero j), HB0.out⟩
  case round =>
    obtain ⟨k, hg, rfl, hk, hf, hb⟩ := hrel
    have HB := Lib.hid hb
    have HF := Lib.hid hf
    clear hb hf
    by_cases hlt : k < l.length
    case pos =>
      have hlt' : (k : Int) < (l.length : Int) := by omega
      obtain ⟨bd, off, rfl, hbd, hc⟩ := HD.out (by omega)
      have q0 := (HB.out.cell (p := ⟨bd, off + k, none⟩) hbd).trans (hc k hlt)
      clear hc
      obtain ⟨c, hcc⟩ : ∃ c, l.getD k 0 = c := ⟨_, rfl⟩
      rw [hcc] at q0
      have HCC := Lib.hid hcc
      clear hcc
      by_cases hd : 48 ≤ c ∧ c ≤ 57
      case pos =>
        obtain ⟨d1, d2⟩ := hd
        have HBL : Hid (isBl c = isBl c) := rfl
        go_wp2_with (first | (go_at_call 20; refine (lawBlank_is c _ HBL.out _).mono ?_; rintro e w8 ⟨rfl, rfl⟩) | (go_at_call 12; refine (HK.out _ (by first | exact HB.out | exact below_dr HB.out _)).mono ?_; rintro e w9 ⟨rfl, hb9⟩; have HB9 := Lib.hid hb9; clear hb9))
        all_goals exact bodyPost_ret (results_tmp rfl _ _ _) rfl ⟨rfl, HB9.out⟩
      by_cases h45 : c = 45
      case pos =>
        subst h45
        go_wp2_with (first | (go_at_call 20; refine (lawBlank_is 45 _ (show isBl 45 = _ from rfl) _).mono ?_; rintro e w8 ⟨rfl, rfl⟩) | (go_at_call 12; refine (HK.out _ (by first | exact HB.out | exact below_dr HB.out _)).mono ?_; rintro e w9 ⟨rfl, hb9⟩; have HB9 := Lib.hid hb9; clear hb9))
        all_goals exact bodyPost_ret (results_tmp rfl _ _ _) rfl ⟨rfl, HB9.out⟩
      have n45 : (c == 45) = false := beq_eq_false_iff_ne.2 h45
      by_cases h43 : c = 43
      case pos =>
        subst h43
        go_wp2_with (first | (go_at_call 20; refine (lawBlank_is 43 _ (show isBl 43 = _ from rfl) _).mono ?_; rintro e w8 ⟨rfl, rfl⟩) | (go_at_call 12; refine (HK.out _ (by first | exact HB.out | exact below_dr HB.out _)).mono ?_; rintro e w9 ⟨rfl, hb9⟩; have HB9 := Lib.hid hb9; clear hb9))
        all_goals exact bodyPost_ret (results_tmp rfl _ _ _) rfl ⟨rfl, HB9.out⟩
      have n43 : (c == 43) = false := beq_eq_false_iff_ne.2 h43
      by_cases h46 : c = 46
      case pos =>
        subst h46
        go_wp2_with (first | (go_at_call 20; refine (lawBlank_is 46 _ (show isBl 46 = _ from rfl) _).mono ?_; rintro e w8 ⟨rfl, rfl⟩) | (go_at_call 12; refine (HK.out _ (by first | exact HB.out | exact below_dr HB.out _)).mono ?_; rintro e w9 ⟨rfl, hb9⟩; have HB9 := Lib.hid hb9; clear hb9))
        all_goals exact bodyPost_ret (results_tmp rfl _ _ _) rfl ⟨rfl, HB9.out⟩
      have n46 : (c == 46) = false := beq_eq_false_iff_ne.2 h46
      by_cases h9 : c = 9
      case pos =>
        subst h9
        go_wp2_with (first | (go_at_call 20; refine (lawBlank_is 9 _ (show isBl 9 = _ from rfl) _).mono ?_; rintro e w8 ⟨rfl, rfl⟩) | (go_at_call 12; refine (HK.out _ (by first | exact HB.out | exact below_dr HB.out _)).mono ?_; rintro e w9 ⟨rfl, hb9⟩; have HB9 := Lib.hid hb9; clear hb9))
        all_goals exact bodyPost_ret (results_tmp rfl _ _ _) rfl ⟨rfl, HB9.out⟩
      have n9 : (c == 9) = false := beq_eq_false_iff_ne.2 h9
      by_cases h10 : c = 10
      case pos =>
        subst h10
        go_wp2_with (first | (go_at_call 20; refine (lawBlank_is 10 _ (show isBl 10 = _ from rfl) _).mono ?_; rintro e w8 ⟨rfl, rfl⟩) | (go_at_call 12; refine (HK.out _ (by first | exact HB.out | exact below_dr HB.out _)).mono ?_; rintro e w9 ⟨rfl, hb9⟩; have HB9 := Lib.hid hb9; clear hb9))
        all_goals exact bodyPost_ret (results_tmp rfl _ _ _) rfl ⟨rfl, HB9.out⟩
      have n10 : (c == 10) = false := beq_eq_false_iff_ne.2 h10
      by_cases h13 : c = 13
      case pos =>
        subst h13
        go_wp2_with (first | (go_at_call 20; refine (lawBlank_is 13 _ (show isBl 13 = _ from rfl) _).mono ?_; rintro e w8 ⟨rfl, rfl⟩) | (go_at_call 12; refine (HK.out _ (by first | exact HB.out | exact below_dr HB.out _)).mono ?_; rintro e w9 ⟨rfl, hb9⟩; have HB9 := Lib.hid hb9; clear hb9))
        all_goals exact bodyPost_ret (results_tmp rfl _ _ _) rfl ⟨rfl, HB9.out⟩
      have n13 : (c == 13) = false := beq_eq_false_iff_ne.2 h13
      by_cases h32 : c < 32
      case pos =>
        have hbl : isBl c = false := by unfold isBl; rw [n9, n10, n13, show (c == 32) = false from beq_eq_false_iff_ne.2 (by omega)]; rfl
        have HBL := Lib.hid hbl
        have d1 : ¬ 48 ≤ c := by omega
        clear hbl
        go_wp2_with (first | (go_at_call 20; refine (lawBlank_is c _ HBL.out _).mono ?_; rintro e w8 ⟨rfl, rfl⟩) | (go_at_call 12; refine (HK.out _ (by first | exact HB.out | exact below_dr HB.out _)).mono ?_; rintro e w9 ⟨rfl, hb9⟩; have HB9 := Lib.hid hb9; clear hb9))
        all_goals exact bodyPost_ret (results_tmp rfl _ _ _) rfl ⟨rfl, HB9.out⟩
      case neg =>
        have HN := Lib.hid (HF.out.next HCC.out h32 hd h45)
        by_cases d1 : 48 ≤ c
        · have d2 : ¬ c ≤ 57 := by omega
          go_wp2_with fail
          go_roundg (gk - 1)
          case measure => omega
          case rel => exact ⟨k + 1, by omega, by go_num, by omega, HN.out, (by first | exact HB.out | exact below_dr HB.out _)⟩
        · go_wp2_with fail
          go_roundg (gk - 1)
          case measure => omega
          case rel => exact ⟨k + 1, by omega, by go_num, by omega, HN.out, (by first | exact HB.out | exact below_dr HB.out _)⟩
    case neg =>
      obtain rfl : k = l.length := by omega
      have hlt' : ¬ (l.length : Int) < (l.length : Int) := by omega
      have HNN := Lib.hid HF.out.noNum
      have HT := Lib.hid (isText_any (cap := vc) HBY.out (fun i hi => (HF.out i hi).1) HNN.out (by omega) (HD.out.below HB.out))
      have HLW : Hid (∀ W, Below w.heap.size w W → Calls Tryz.prog 23 #[.slice vp l.length vc, .int .i64 300] W (LexWQ W l)) := fun W hb => by
        obtain ⟨ca, ta, h1⟩ := HO.out
        obtain ⟨cb, tb, h3⟩ := HA.out
        exact lexWalk_any (arg_under HV.out hb) (by omega) HBY.out HNN.out (env_below HE.out hb h2) (Nat.lt_of_lt_of_le h2 hb.size) ⟨ca, ta, (hb.block _ (lt_heap h1)).trans h1⟩ ⟨cb, tb, (hb.block _ (lt_heap h3)).trans h3⟩
      have HCL : Hid (∀ W, Below w.heap.size w W → Calls Tryz.prog 22 #[.slice vp l.length vc] W (IsQ (fun _ => True) W)) := fun W hb => clean_any (cap := vc) (HD.out.below hb) HBY.out (by omega) HCP.out
      go_upto_region 11 with fail
      go_wp2_with (first
        | (go_at_call 21; refine HT.out.mono ?_; rintro e w2 ⟨ok, rfl, hok, hb2⟩; have HOK := Lib.hid hok; have HB2 := Lib.hid (HB.out.trans (hb2.mono HB.out.size)); clear hok hb2; cases ok)
        | (go_at_call 12; refine (HK.out _ (by first | exact HB3.out | exact HB2.out | exact HB4.out.alloc HB4.out.size _)).mono ?_; rintro e w9 ⟨rfl, hb9⟩; have HB9 := Lib.hid hb9; clear hb9)
        | (go_at_call 22; refine (HCL.out _ HB2.out).mono ?_; rintro e w3 ⟨ok3, rfl, -, hb3⟩; have HB3 := Lib.hid (HB2.out.trans (hb3.mono HB2.out.size)); clear hb3; cases ok3)
        | (go_at_call 23; refine (HLW.out _ HB3.out).mono ?_; rintro e w4 ⟨n0, t, n2, p3, l3, c3, p4, l4, c4, p5, l5, c5, en, pos, rfl, hen, hb4⟩; have HB4 := Lib.hid (HB3.out.trans (hb4.mono HB3.out.size)); have hne : (en != 0) = true := bne_iff_ne.2 (fun h => by have := HOK.out (hen h); cases this); clear hen hb4; clear HB3 HB2))
      all_goals exact bodyPost_ret (results_tmp rfl _ _ _) rfl ⟨rfl, HB9.out⟩
end Go.Proofs.YtaecbclonmhbcaaGreatDoor
