/- Rows of calls with whatever slices: where they lie, one more behind them; and the two laws that look at their sizes. -/
import Derived.Test.YtaecbclonmhbcaaGreatDoorG41
import Derived.Test.YtaecbclonmhbcaaGreatDoorG42
import Derived.Test.YtaecbclonmhbcaaGreatDoorG15
import Derived.Deep.LoopGhost
import Derived.Deep.CutBlock
import Derived.Deep.DeepCutAuto
import Derived.WalkMore
set_option linter.unusedVariables false
set_option linter.unusedSimpArgs false
namespace Go.Proofs.YtaecbclonmhbcaaGreatDoor
open Go.RowKit

abbrev Cl := Int × Int × Value
def dC : Cl := (0, 0, .nilIface)
/-- The values of a row of calls. -/
def clVs (l : List Cl) : List Value := l.flatMap fun c => [.int .i64 c.1, .int .i64 c.2.1, c.2.2]
theorem clVs_append (a b : List Cl) : clVs (a ++ b) = clVs a ++ clVs b := by simp [clVs]
theorem clVs_get : ∀ (l : List Cl) (k : Nat), k < l.length → (clVs l)[k * 3]? = some (.int .i64 (l.getD k dC).1) ∧ (clVs l)[k * 3 + 1]? = some (.int .i64 (l.getD k dC).2.1) ∧ (clVs l)[k * 3 + 2]? = some (l.getD k dC).2.2
  | [], k, h => absurd h (by simp)
  | c :: l, 0, _ => ⟨rfl, rfl, rfl⟩
  | c :: l, k + 1, h => by
    have ih := clVs_get l k (by simpa using h)
    have e : clVs (c :: l) = [.int .i64 c.1, .int .i64 c.2.1, c.2.2] ++ clVs l := by simp [clVs]
    rw [e]
    have e0 : (k + 1) * 3 = 3 + k * 3 := by omega
    refine ⟨?_, ?_, ?_⟩
    · rw [e0, List.getElem?_append_right (by simp)]; simpa using ih.1
    · rw [e0, show 3 + k * 3 + 1 = 3 + (k * 3 + 1) from by omega, List.getElem?_append_right (by simp)]; simpa using ih.2.1
    · rw [e0, show 3 + k * 3 + 2 = 3 + (k * 3 + 2) from by omega, List.getElem?_append_right (by simp)]; simpa using ih.2.2
/-- The third of each is a slice. -/
def ClS (l : List Cl) : Prop := ∀ c ∈ l, ∃ (p : Option Addr) (n m : Nat), c.2.2 = .slice p n m
theorem ClS.at {l : List Cl} (h : ClS l) {k : Nat} (hk : k < l.length) : ∃ (p : Option Addr) (n m : Nat), (l.getD k dC).2.2 = .slice p n m := h _ (by simp [List.getD, hk])
theorem info27' : (Tryz.prog.info? 27).map (fun i => (i.zero, i.size, i.bytes)) = some (some (Value.agg #[.int .i64 0, .int .i64 0, .slice none 0 0]), 3, 40) := by kernel_rfl
/-- The row lies there. -/
theorem ownsRow_cl {w : World} {base g cap : Nat} {l : List Cl} (h : w.ownsRow base 27 3 (.slice (some ⟨g, 0, none⟩) l.length cap) l.length (clVs l)) (hs : ClS l) : CallsIn w g 0 l := by
  intro k hk
  have e := clVs_get l k hk
  have c0 := h.cellAt (k * 3) (by omega)
  have c1 := h.cellAt (k * 3 + 1) (by omega)
  have c2 := h.cellAt (k * 3 + 2) (by omega)
  obtain ⟨p, n, m, hp⟩ := hs.at hk
  rw [Nat.zero_add]
  exact ⟨p, n, m, hp, c0.trans e.1, c1.trans e.2.1, by rw [← hp]; exact c2.trans e.2.2⟩
/-- One call more. -/
theorem append_cl {w : World} {base : Nat} {v : Value} {xs : List Cl} (hown : w.ownsRow base 27 3 v xs.length (clVs xs)) (a n : Int) (p : Option Addr) (sn sc : Nat) (hn : xs.length + 1 ≤ 1000000) (hbase : base ≤ w.heap.size) :
    ∃ v' w', (Builtin.append_ #[28, 28] 28 #[v, .slice (some ⟨w.heap.size, 0, none⟩) 1 1]).run Tryz.prog (w.alloc (.cells #[.int .i64 a, .int .i64 n, .slice p sn sc] 27)) = .ok v' w' ∧
      w'.ownsRow base 27 3 v' (xs ++ [(a, n, Value.slice p sn sc)]).length (clVs (xs ++ [(a, n, Value.slice p sn sc)])) ∧ w.grownBy w' v.ownBlock ∧ (v'.ownBlock = v.ownBlock ∨ ∃ k, w.heap.size ≤ k ∧ v'.ownBlock = some k) := by
  obtain ⟨i, hi, hz, hz1, hz2⟩ := info_parts info27'
  have hsz : (w.alloc (.cells #[.int .i64 a, .int .i64 n, .slice p sn sc] 27)).heap.size = w.heap.size + 1 := by simp
  have hadd : ∀ j, (⟨w.heap.size, 0, none⟩ : Addr).add j = ⟨w.heap.size, j, none⟩ := fun j => by rw [Addr.add_lit, Nat.zero_add]
  obtain ⟨v', w', hr, ho, hg, hb⟩ := append_any (P := Tryz.prog) (t := 28) Tryz.underlying28 hi hz hz1 hz2 rfl (by decide) (by decide) (hown.alloc (.cells #[.int .i64 a, .int .i64 n, .slice p sn sc] 27))
    ⟨w.heap.size, 0, none⟩ 1 1 (clVs [(a, n, .slice p sn sc)]) rfl
    (fun j x hj => by
      rw [hadd]
      exact cell_of_heap (heap_alloc_new w _) j (by simpa [clVs] using hj)) (by
        intro u hu
        simp only [clVs, List.flatMap_cons, List.flatMap_nil, List.append_nil, List.mem_cons, List.not_mem_nil, or_false] at hu
        rcases hu with rfl | rfl | rfl <;> rfl) hn (by omega)
  refine ⟨v', w', hr, by rw [List.length_append, clVs_append]; exact ho, ?_, ?_⟩
  · have h0 := World.grownBy_alloc w (.cells #[.int .i64 a, .int .i64 n, .slice p sn sc] 27) v.ownBlock
    exact ⟨hg.os.trans h0.os, hg.tape.trans h0.tape, hg.output.trans h0.output, Nat.le_trans h0.size hg.size, fun k hk hne => (hg.block k (by omega) hne).trans (h0.block k hk hne)⟩
  · rcases hb with h | ⟨k, hk, h⟩
    · exact .inl h
    · exact .inr ⟨k, by omega, h⟩

/-- A row of calls that came in. -/
def CallsArg (w : World) (pv : Option Addr) (cs : List Cl) : Prop := 0 < cs.length → ∃ cb co, pv = some ⟨cb, co, none⟩ ∧ cb < w.heap.size ∧ CallsIn w cb co cs
theorem CallsIn.below {w w' : World} {cb co B : Nat} {cs : List Cl} (h : CallsIn w cb co cs) (hb : Below B w w') (hB : cb < B) : CallsIn w' cb co cs := fun k hk => by
  obtain ⟨p, n, m, h1, h2, h3, h4⟩ := h k hk
  exact ⟨p, n, m, h1, (hb.cell (p := ⟨cb, co + k * 3, none⟩) hB).trans h2, (hb.cell (p := ⟨cb, co + k * 3 + 1, none⟩) hB).trans h3, (hb.cell (p := ⟨cb, co + k * 3 + 2, none⟩) hB).trans h4⟩

/-- Some answer. -/
def BoolBelow (w : World) (e : Ending) (w' : World) : Prop := ∃ r : Bool, e = .returned (.bool r) ∧ Below w.heap.size w w'
def FitsPost (n : Nat) (w : World) (e : Ending) (w' : World) : Prop := ∃ r : Bool, e = .returned (.bool r) ∧ (r = true → n ≤ 2147483647) ∧ Below w.heap.size w w'
def HeavyPost (n : Nat) (w : World) (e : Ending) (w' : World) : Prop := ∃ r : Bool, e = .returned (.bool r) ∧ (r = false → n ≤ 512) ∧ w = w'

set_option maxHeartbeats 1000000 in
theorem fits2_any (a n : Int) (p : Option Addr) (sn sc : Nat) (w : World) : Calls Tryz.prog 27 #[.agg #[.int .i64 a, .int .i64 n, .slice p sn sc]] w (BoolBelow w) := by
  have hb : Below w.heap.size w (w.alloc (.cells #[.int .i64 a, .int .i64 n, .slice p sn sc] 27)) := (Below.refl _ _).alloc (Nat.le_refl _) _
  have HB := Lib.hid hb
  clear hb
  by_cases h : 2147483647 < sn
  · have h1 : (2147483647 : Int) < sn := by omega
    go_enter Tryz.func27, Tryz.ntmps27
    go_wp2
    exact bodyPost_ret (results_tmp rfl _ _ _) rfl ⟨_, rfl, HB.out⟩
  · have h1 : ¬ (2147483647 : Int) < sn := by omega
    go_enter Tryz.func27, Tryz.ntmps27
    go_wp2
    exact bodyPost_ret (results_tmp rfl _ _ _) rfl ⟨_, rfl, HB.out⟩

set_option maxHeartbeats 4000000 in
set_option maxRecDepth 100000 in
theorem fits1_any {w : World} {pv : Option Addr} {cs : List Cl} (cc : Nat) (h : CallsArg w pv cs) : Calls Tryz.prog 15 #[.slice pv cs.length cc] w (FitsPost cs.length w) := by
  have HC := Lib.hid h
  clear h
  by_cases hbig : 2147483647 < cs.length
  · have h1 : (2147483647 : Int) < cs.length := by omega
    go_enter Tryz.func15, Tryz.ntmps15
    go_wp2
    exact bodyPost_ret (results_tmp rfl _ _ _) rfl ⟨false, rfl, fun h => (by cases h), Below.refl _ _⟩
  have h1 : ¬ (2147483647 : Int) < cs.length := by omega
  go_enter Tryz.func15, Tryz.ntmps15
  go_wp2
  go_loopw [10] (fun i wr => ∃ k : Nat, i = .int .i64 k ∧ k ≤ cs.length ∧ Below w.heap.size w wr) (fun i _ => cs.length - (intOf i).toNat)
  case atStart => exact ⟨0, rfl, Nat.zero_le _, Below.refl _ _⟩
  case round =>
    obtain ⟨k, rfl, hk, hb⟩ := hrel
    have HB := Lib.hid hb
    clear hb
    by_cases hlt : k < cs.length
    case neg =>
      obtain rfl : k = cs.length := by omega
      go_wp2
      exact bodyPost_ret (results_tmp rfl _ _ _) rfl ⟨true, rfl, fun _ => by omega, HB.out⟩
    case pos =>
      obtain ⟨cb, co, rfl, hcb, hci⟩ := HC.out (by omega)
      obtain ⟨p3, s3, c3, -, q0, q1, q2⟩ := (hci.below HB.out hcb) k hlt
      clear hci
      generalize (cs.getD k (0, 0, .nilIface)).1 = a at q0
      generalize (cs.getD k (0, 0, .nilIface)).2.1 = n at q1
      go_wp2_with (go_at_call 27; refine (fits2_any _ _ _ _ _ _).mono ?_; rintro e w2 ⟨r, rfl, hb2⟩; have HB2 := Lib.hid hb2; clear hb2; cases r)
      · have hb := (HB.out.alloc HB.out.size _).trans (HB2.out.mono (by have := HB.out.size; simp; omega))
        have HBF := Lib.hid hb
        clear hb
        exact bodyPost_ret (results_tmp rfl _ _ _) rfl ⟨false, rfl, fun h => (by cases h), HBF.out⟩
      · refine ⟨⟨k + 1, by go_num, by omega, (HB.out.alloc HB.out.size _).trans (HB2.out.mono (by have := HB.out.size; simp; omega))⟩, by simp [intOf]; omega⟩

set_option maxHeartbeats 4000000 in
set_option maxRecDepth 100000 in
theorem heavy_any {w : World} {pv : Option Addr} {cs : List Cl} (cc : Nat) (h : CallsArg w pv cs) (hlen : cs.length ≤ 2147483647) : Calls Tryz.prog 16 #[.slice pv cs.length cc] w (HeavyPost cs.length w) := by
  have HC := Lib.hid h
  clear h
  go_enter Tryz.func16, Tryz.ntmps16
  go_upto_block 0 with fail
  go_cut [3, 4] from 5 to 23 (fun a3 a4 wx => (∃ N k : Nat, a3 = .int .i64 N ∧ a4 = .int .i64 k ∧ N ≤ 20000) ∧ w = wx)
  case first =>
    go_wp2_with fail
    go_loop [3, 4] (fun a3 a4 => ∃ N k : Nat, a3 = .int .i64 N ∧ a4 = .int .i64 k ∧ k ≤ cs.length ∧ N ≤ 16400) (fun _ a4 => cs.length - (intOf a4).toNat)
    case atStart => exact ⟨0, 0, rfl, rfl, Nat.zero_le _, by decide⟩
    case round =>
      obtain ⟨N, k, rfl, rfl, hk, hN⟩ := hrel
      by_cases hlt : k < cs.length
      case neg =>
        obtain rfl : k = cs.length := by omega
        go_wp2_with fail
        go_meet
        exact ⟨⟨N, cs.length, rfl, rfl, by omega⟩, rfl⟩
      case pos =>
        by_cases hN2 : N ≤ 8192
        case neg =>
          have h3 : ¬ (N : Int) ≤ 8192 := by omega
          go_wp2_with fail
          go_meet
          exact ⟨⟨N, k, rfl, rfl, by omega⟩, rfl⟩
        case pos =>
          have h3 : (N : Int) ≤ 8192 := by omega
          obtain ⟨cb, co, rfl, hcb, hci⟩ := HC.out (by omega)
          obtain ⟨p3, s3, c3, -, q0, q1, q2⟩ := hci k hlt
          clear hci
          go_wp2_with fail
          exact ⟨⟨N + min s3 8193, k + 1, congrArg _ (by omega), by go_num, by omega, by omega⟩, by simp [intOf]; omega⟩
  case rest =>
    obtain ⟨⟨N, k, rfl, rfl, hN⟩, rfl⟩ := hcut
    by_cases h8 : 8192 < N
    · have g8 : (8192 : Int) < N := by omega
      go_wp2_with fail
      exact bodyPost_ret (results_tmp rfl _ _ _) rfl ⟨true, rfl, fun h => (by cases h), rfl⟩
    · have g8 : ¬ (8192 : Int) < N := by omega
      by_cases h5 : 512 < cs.length
      · have g5 : (512 : Int) < cs.length := by omega
        go_wp2_with fail
        exact bodyPost_ret (results_tmp rfl _ _ _) rfl ⟨true, rfl, fun h => (by cases h), rfl⟩
      · have g5 : ¬ (512 : Int) < cs.length := by omega
        go_wp2_with fail
        exact bodyPost_ret (results_tmp rfl _ _ _) rfl ⟨false, rfl, fun _ => (by omega), rfl⟩
end Go.Proofs.YtaecbclonmhbcaaGreatDoor
