/- The walk of FnLexAdded. -/
import Derived.Test.YtaecbclonmhbcaaGreatDoorG41
import Derived.Test.YtaecbclonmhbcaaGreatDoorG42
import Derived.Test.YtaecbclonmhbcaaGreatDoorG34
import Derived.StillTailTactics
set_option linter.unusedVariables false
set_option linter.unusedSimpArgs false
namespace Go.Proofs.YtaecbclonmhbcaaGreatDoor
open Go.RowKit

theorem region_tail {P : Program} {id : Nat} {Q : Exit → Act → World → Prop} {a : Act} {w : World} {l : List Oper} (n : Nat) (hm : P.follows .mixedOrders = true) (hB : Region.lexTailB .any l.toArray n = true)
    (h : wpStill P l.toArray w.drew (fun a' => wpList P l.toArray Q (l.drop n) a' w.drew) (l.take n) a) : (Code.region id l.toArray true).wp P Q a w := wp_region_still_tail n hm hB h

theorem env_below {w w' : World} {ae : Sur} {ao : Addr} {B : Nat} (h : Env w ae ao) (hb : Below B w w') (hB : 1 < B) : Env w' ae ao :=
  ⟨(hb.cell (p := ⟨1, 0, none⟩) hB).trans h.eof, (hb.cell (p := ⟨0, 0, none⟩) (Nat.lt_trans Nat.zero_lt_one hB)).trans h.other, h.ne⟩
theorem env_drew {w : World} {ae : Sur} {ao : Addr} (h : Env w ae ao) : Env w.drew ae ao := ⟨h.eof, h.other, h.ne⟩
theorem arg_grown {w w' : World} {v : Value} {l : List Int} (h : BytesArg w v l) (hg : w.grownBy w' none) : BytesArg w' v l := by
  rcases h with h | h
  · exact .inl h
  · exact .inr (h.grown hg (by simp))

/-- The row of calls. -/
def addedCs (a b : Int) : List (Int × Int × Value) := [(a, 0, .slice none 0 0), (45, 0, .slice none 0 0), (b, 0, .slice none 0 0), (43, 0, .slice none 0 0)]
def addedRow (a b : Int) : Obj := .cells #[.int .i64 a, .int .i64 0, .slice none 0 0, .int .i64 45, .int .i64 0, .slice none 0 0, .int .i64 b, .int .i64 0, .slice none 0 0, .int .i64 43, .int .i64 0, .slice none 0 0] 27
theorem added_in (w : World) (a b : Int) : CallsIn (w.alloc (addedRow a b)) w.heap.size 0 (addedCs a b) := by
  have h := heap_alloc_new w (addedRow a b)
  intro k hk
  match k, hk with
  | 0, _ => exact ⟨none, 0, 0, rfl, cell_of_heap h 0 rfl, cell_of_heap h 1 rfl, cell_of_heap h 2 rfl⟩
  | 1, _ => exact ⟨none, 0, 0, rfl, cell_of_heap h 3 rfl, cell_of_heap h 4 rfl, cell_of_heap h 5 rfl⟩
  | 2, _ => exact ⟨none, 0, 0, rfl, cell_of_heap h 6 rfl, cell_of_heap h 7 rfl, cell_of_heap h 8 rfl⟩
  | 3, _ => exact ⟨none, 0, 0, rfl, cell_of_heap h 9 rfl, cell_of_heap h 10 rfl, cell_of_heap h 11 rfl⟩

/-- What the row of calls tells, where FnLexAdded looks. -/
def AddedPost (w : World) (e : Ending) (w' : World) : Prop :=
  ∃ (g cap : Nat) (k : Int) (p : Option Addr) (c : Nat), e = .returned (.slice (some ⟨g, 0, none⟩) 4 cap) ∧ k ≠ 0 ∧ w'.cell? ⟨g, 6, none⟩ = some (.int .i64 k) ∧ w'.cell? ⟨g, 8, none⟩ = some (.int .i64 0) ∧ w'.cell? ⟨g, 9, none⟩ = some (.slice p 0 c) ∧
    w'.cell? ⟨g, 10, none⟩ = some (.int .i64 k) ∧ w'.cell? ⟨g, 12, none⟩ = some (.int .i64 0) ∧ Below w.heap.size w w'
theorem added_lex {w : World} {ae ao : Addr} (he : Env w ⟨ae, fun _ => False⟩ ao) (h2 : 1 < w.heap.size) (hT : Tabs w) {ca cb : Array Value} {ta tb : TypeId} (ha : w.heap[ao.block]? = some (.cells ca ta (0, 0))) (hb : w.heap[ae.block]? = some (.cells cb tb (0, 0)))
    {v : Value} {l : List Int} (hv : BytesArg w v l) (hby : Bytes l) (hl : l.length ≤ 8192) (a b : Int) (h13 : 13 ≤ a) (h27 : a ≤ 27) (k13 : 13 ≤ b) (k27 : b ≤ 27) :
    Calls Tryz.prog 13 #[v, .bool false, .slice (some ⟨w.heap.size, 0, none⟩) 4 4] (w.alloc (addedRow a b)) (AddedPost w) := by
  have hg : w.grownBy (w.alloc (addedRow a b)) none := World.grownBy_alloc w _ none
  have hbl : Below w.heap.size w (w.alloc (addedRow a b)) := (Below.refl _ _).alloc (Nat.le_refl _) _
  have hsz : (w.alloc (addedRow a b)).heap.size = w.heap.size + 1 := by simp
  have hT1 := hT.below hbl
  have ha1 : (w.alloc (addedRow a b)).heap[ao.block]? = some (.cells ca ta (0, 0)) := by rw [heap_alloc_lt (lt_heap ha)]; exact ha
  have hb1 : (w.alloc (addedRow a b)).heap[ae.block]? = some (.cells cb tb (0, 0)) := by rw [heap_alloc_lt (lt_heap hb)]; exact hb
  refine (lex_arg (arg_grown hv hg) (by omega) hby (env_below he hbl h2) (by omega) (addedCs a b) (fun c hc => ?_) (by show (4 : Nat) ≤ _; decide) w.heap.size 0 4 (some ⟨w.heap.size, 0, none⟩) (fun _ => rfl) (added_in w a b) (by omega)).mono ?_
  · simp only [addedCs, List.mem_cons, List.not_mem_nil, or_false] at hc
    rcases hc with rfl | rfl | rfl | rfl
    · exact call_ok hT1 ha1 hb1 (.inr (.inr (.inl ⟨h13, h27⟩)))
    · exact call_ok hT1 ha1 hb1 (.inr (.inr (.inr (.inr rfl))))
    · exact call_ok hT1 ha1 hb1 (.inr (.inr (.inl ⟨k13, k27⟩)))
    · exact call_ok hT1 ha1 hb1 (.inr (.inr (.inr (.inl rfl))))
  · rintro e w' ⟨v', gs, X, rfl, hch, hown, hbw⟩
    obtain ⟨g0, g1, g2, g3, rfl, k1, k2, k3, ⟨p, c, k4⟩, k5, -, -, -⟩ := Chain.added hch
    have hown' : w'.ownsRow (w.alloc (addedRow a b)).heap.size 30 4 v' 4 (gotCs [g0, g1, g2, g3]) := hown
    rcases hown'.2 with ⟨-, h0⟩ | ⟨g, cap, cur, rfl, hg1, hg2, hg3, hg4, hg5, htake⟩
    · cases h0
    · refine ⟨g, cap, g1.2.2.1, p, c, rfl, k1, ?_, ?_, ?_, ?_, ?_, hbl.trans (hbw.mono (by omega))⟩
      · rw [hown'.cellAt 6 (by decide)]; rfl
      · rw [hown'.cellAt 8 (by decide), ← k3]; rfl
      · rw [hown'.cellAt 9 (by decide), ← k4]; rfl
      · rw [hown'.cellAt 10 (by decide), ← k2]; rfl
      · rw [hown'.cellAt 12 (by decide), ← k5]; rfl

set_option maxHeartbeats 4000000 in
set_option maxRecDepth 100000 in
theorem added_walk {w : World} {ae ao : Addr} (he : Env w ⟨ae, fun _ => False⟩ ao) (h2 : 1 < w.heap.size) (hT : Tabs w) {ca cb : Array Value} {ta tb : TypeId} (ha : w.heap[ao.block]? = some (.cells ca ta (0, 0))) (hb : w.heap[ae.block]? = some (.cells cb tb (0, 0)))
    {vp : Option Addr} {vc : Nat} {l : List Int} (hv : BytesArg w (.slice vp l.length vc) l) (hby : Bytes l) (hl : l.length ≤ 8192) (p q : Int) (hp : 0 ≤ p ∧ p ≤ 255) (hq : 0 ≤ q ∧ q ≤ 255) :
    Calls Tryz.prog 3 #[.slice vp l.length vc, .int .u8 p, .int .u8 q] w fun e w' => e = .returned (.bool true) ∧ Below w.heap.size w w' := by
  have HE := Lib.hid he
  have HT := Lib.hid hT
  have HV := Lib.hid hv
  have l1 : ¬ (2147483647 : Int) < l.length := by omega
  have l2 : ¬ (8192 : Int) < l.length := by omega
  have HA := Lib.hid ha
  have HB := Lib.hid hb
  clear he hT hv ha hb
  go_enter Tryz.func3, Tryz.ntmps3
  have ha0 : 13 ≤ 13 + p % 15 := by omega
  have ha1 : 13 + p % 15 ≤ 27 := by omega
  have hb0 : 13 ≤ 13 + q % 15 := by omega
  have hb1 : 13 + q % 15 ≤ 27 := by omega
  have HLX := Lib.hid (added_lex HE.out h2 HT.out HA.out HB.out HV.out hby hl _ _ ha0 ha1 hb0 hb1)
  clear ha0 ha1 hb0 hb1
  go_wp2_with (go_at_call 13; refine HLX.out.mono ?_; rintro e w1 ⟨g, cap, k, p3, c3, rfl, hk0, q6, q8, q9, q10, q12, hbw⟩; have nk : (k == 0) = false := beq_eq_false_iff_ne.2 hk0; have nk2 : (k != 0) = true := bne_iff_ne.2 hk0; have HBW := Lib.hid hbw; clear hbw)
  have hs1 : 1 < w1.heap.size := Nat.lt_of_lt_of_le h2 HBW.out.size
  have HE1 := Lib.hid (env_below HE.out HBW.out h2)
  refine region_tail 44 (by kernel_rfl) (by kernel_rfl) ?_
  simp only [List.take_succ_cons, List.take_zero, List.drop_succ_cons, List.drop_zero]
  repeat still_step
  refine wpStill_nil ?_
  go_wp2_with (go_at_call 12; refine (known_any (w := w1.drew) (env_drew HE1.out) hs1).mono ?_; rintro e w5 ⟨rfl, hb5⟩; have HB5 := Lib.hid hb5; clear hb5)
  go_ret
  exact ⟨rfl, (HBW.out.drew).trans (HB5.out.mono HBW.out.size)⟩
end Go.Proofs.YtaecbclonmhbcaaGreatDoor
