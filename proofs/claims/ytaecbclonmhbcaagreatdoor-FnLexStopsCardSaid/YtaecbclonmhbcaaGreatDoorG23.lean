/- base64.NewEncoding over the standard alphabet. base64's small functions: the encoding, its lengths, the digits put together, the bytes put down. What every statement of the seat ends with: the listed errors, the arguments that stay, the reading behind the call. What a listed variable holds, read off its datum: a slice of elements, an array of pairs, floats. No program. -/
import Derived.Test.YtaecbclonmhbcaaGreatDoorProg
import Derived.Test.YtaecbclonmhbcaaGreatDoorG01
import Derived.Test.YtaecbclonmhbcaaGreatDoorG15
import Derived.Deep.MidRow
import Derived.Lib.BufferWrite
import Derived.Lib.SlBuf
import Derived.Laws.CopyOwn
import Derived.Deep.DeepCutAuto
import Derived.Deep.LoopGhost
import Derived.WalkMore
import Derived.Test.YtaecbclonmhbcaaGreatDoorRows
import Derived.Test.YtaecbclonmhbcaaGreatDoorG02
import Derived.Stop.LaidTwo
import Derived.ChangeStays
import Derived.ProofKit
import Derived.OpenShut
import Derived.ReadAgain
import Derived.MakeChecks
import Derived.Test.YtaecbclonmhbcaaGreatDoorG22
import Derived.Lib.LaidPrint
import Derived.ChangeArms
set_option linter.unusedVariables false
set_option linter.unusedSimpArgs false
/- base64.NewEncoding over the standard alphabet. -/
namespace Go.Proofs.YtaecbclonmhbcaaGreatDoor
open Go.RowKit

/-- The encoding, as far as reading needs it. -/
structure EncAt (w : World) (e : Nat) : Prop where
  dm : ∀ c : Nat, c < 256 → ∃ v : Nat, v ≤ 255 ∧ w.cell? ⟨e, 64 + c, none⟩ = some (.int .u8 v)
  pad : w.cell? ⟨e, 320, none⟩ = some (.int .i32 61)
  strict : w.cell? ⟨e, 321, none⟩ = some (.bool false)
theorem EncAt.keep {w w' : World} {e : Nat} (h : EncAt w e) (hk : w'.heap[e]? = w.heap[e]?) : EncAt w' e := by
  have hc : ∀ i, w'.cell? ⟨e, i, none⟩ = w.cell? ⟨e, i, none⟩ := fun i => by simp [World.cell?, hk]
  refine ⟨fun c hcc => ?_, by rw [hc]; exact h.pad, by rw [hc]; exact h.strict⟩
  obtain ⟨v, h1, h2⟩ := h.dm c hcc
  exact ⟨v, h1, by rw [hc]; exact h2⟩

noncomputable def encC0 : Array Value := Tryz.zeroCells153
theorem slice64 (b : Nat) (W : World) : (Instr.sliceAt 150 (.pointer (some ⟨b, 0, none⟩)) none none none).run Tryz.prog W = .ok (.slice (some ⟨b, 0, none⟩) 64 64) W := by
  show _ = _
  kernel_rfl
theorem slice256 (b : Nat) (W : World) : (Instr.sliceAt 151 (.pointer (some ⟨b, 64, none⟩)) none none none).run Tryz.prog W = .ok (.slice (some ⟨b, 64, none⟩) 256 256) W := by
  show _ = _
  kernel_rfl

def alS : ByteArray := ⟨#[65, 66, 67, 68, 69, 70, 71, 72, 73, 74, 75, 76, 77, 78, 79, 80, 81, 82, 83, 84, 85, 86, 87, 88, 89, 90, 97, 98, 99, 100, 101, 102, 103, 104, 105, 106, 107, 108, 109, 110, 111, 112, 113, 114, 115, 116, 117, 118, 119, 120, 121, 122, 48, 49, 50, 51, 52, 53, 54, 55, 56, 57, 43, 47]⟩
def alN (k : Nat) : Nat := (alS.data.toList.getD k 0).toNat
theorem al_good : ((List.range 64).all fun k => decide (alN k < 256) && alN k != 10 && alN k != 13 && (List.range k).all fun j => alN j != alN k) = true := by kernel_rfl
theorem al_k {k : Nat} (h : k < 64) : alN k < 256 ∧ alN k ≠ 10 ∧ alN k ≠ 13 ∧ ∀ j, j < k → alN j ≠ alN k := by
  have := List.all_eq_true.1 al_good k (List.mem_range.2 h)
  simp only [Bool.and_eq_true, decide_eq_true_eq, bne_iff_ne, List.all_eq_true] at this
  exact ⟨this.1.1.1, this.1.1.2, this.1.2, fun j hj => this.2 j (List.mem_range.2 hj)⟩
theorem al_index (k : Nat) (h : k < 64) (W : World) : (Instr.index 9 (.string alS) (.int .i64 k)).run Tryz.prog W = .ok (.int .u8 (alN k)) W := by
  have hs : alS.size = 64 := rfl
  have hk : k < alS.data.toList.length := h
  have e : alN k = (alS[k]'h).toNat := by
    unfold alN
    rw [List.getD_eq_getElem?_getD, List.getElem?_eq_getElem hk]
    rfl
  simp [Instr.index, asIntOf, run_underlying Tryz.underlying9, hs, e, h]
  rfl

noncomputable def encC1 : Array Value := encC0.setIfInBounds 320 (.int .i32 61)
noncomputable def encC2 : Array Value := (encC1.toList.take 0 ++ Lib.byteCells alS.data.toList ++ encC1.toList.drop (0 + alS.size)).toArray
def mapS : ByteArray := ⟨(List.replicate 256 (255 : UInt8)).toArray⟩
noncomputable def encC3 : Array Value := (encC2.toList.take 64 ++ Lib.byteCells mapS.data.toList ++ encC2.toList.drop (64 + mapS.size)).toArray
theorem c1_size : encC1.size = 322 := by kernel_rfl
theorem c2_size : encC2.size = 322 := by kernel_rfl
theorem map_size : mapS.size = 256 := by kernel_rfl
theorem c3_size : encC3.size = 322 := by kernel_rfl
theorem c3_dm : ((List.range 256).all fun c => match encC3[64 + c]? with | some (.int .u8 255) => true | _ => false) = true := by kernel_rfl
theorem c3_at {c : Nat} (h : c < 256) : encC3[64 + c]? = some (.int .u8 255) := by
  have := List.all_eq_true.1 c3_dm c (List.mem_range.2 h)
  revert this
  generalize encC3[64 + c]? = o
  intro this
  match o, this with
  | some (.int .u8 255), _ => rfl
theorem c3_pad : encC3[320]? = some (.int .i32 61) := by kernel_rfl
theorem c3_strict : encC3[321]? = some (.bool false) := by kernel_rfl

/-- The encoding within the loop: k signs are in. -/
structure EncI (w wr : World) (e k : Nat) : Prop where
  dm : ∀ c : Nat, c < 256 → ∃ v : Nat, v ≤ 255 ∧ wr.cell? ⟨e, 64 + c, none⟩ = some (.int .u8 v) ∧ ((∀ j, j < k → alN j ≠ c) → v = 255)
  pad : wr.cell? ⟨e, 320, none⟩ = some (.int .i32 61)
  strict : wr.cell? ⟨e, 321, none⟩ = some (.bool false)
  free : ∀ i, wr.frozen? ⟨e, i, none⟩ = false
  below : Below e w wr

theorem EncI.step {w wr : World} {e k : Nat} (h : EncI w wr e k) (hk : k < 64) (n : Nat) : EncI w ((wr.drewN n).setCell ⟨e, 64 + alN k, none⟩ (.int .u8 k)) e (k + 1) := by
  have g0 := (al_k hk).1
  refine ⟨fun c hcc => ?_, cell_set_other (w := wr.drewN n) h.pad (by omega), cell_set_other (w := wr.drewN n) h.strict (by omega), free_set (w := wr.drewN n) h.free, h.below.trans ⟨rfl, rfl, rfl, by simp, fun j hj => heap_setCell_other (w := wr.drewN n) _ _ (by omega)⟩⟩
  obtain ⟨v, h1, h2, h3⟩ := h.dm c hcc
  by_cases hx : alN k = c
  · subst hx
    exact ⟨k, by omega, cell_set_same (w := wr.drewN n) h2, fun hj => absurd rfl (hj k (by omega))⟩
  · exact ⟨v, h1, cell_set_other (w := wr.drewN n) h2 (by omega), fun hj => h3 fun j hjk => hj j (by omega)⟩

theorem copy_al {W : World} {g : Nat} (h : W.heap[g]? = some (.cells encC1 153 (0, 0))) (ty : TypeId) :
    (Builtin.copy_ #[22, 9] ty #[.slice (some ⟨g, 0, none⟩) 64 64, .string alS]).run Tryz.prog W = .ok (goInt alS.size) (W.setRow g encC2) :=
  Lib.run_copy_row_string (P := Tryz.prog) W 22 9 ty 5 g 0 64 64 alS encC1 153 Tryz.underlying22 (by kernel_rfl) h (by decide) (by rw [c1_size]; decide)
theorem copy_map {W : World} {g : Nat} (h : W.heap[g]? = some (.cells encC2 153 (0, 0))) (ty : TypeId) :
    (Builtin.copy_ #[22, 9] ty #[.slice (some ⟨g, 64, none⟩) 256 256, .string mapS]).run Tryz.prog W = .ok (goInt mapS.size) (W.setRow g encC3) :=
  Lib.run_copy_row_string (P := Tryz.prog) W 22 9 ty 5 g 64 256 256 mapS encC2 153 Tryz.underlying22 (by kernel_rfl) h (by rw [map_size]; decide) (by rw [map_size, c2_size]; decide)
theorem map_lit : (⟨(([255, 255] : List UInt8)).toArray⟩ : ByteArray) = ⟨#[255, 255]⟩ := rfl

set_option maxHeartbeats 4000000 in
set_option maxRecDepth 100000 in
theorem newEnc_any (w : World) : Calls Tryz.prog 135 #[.string alS] w fun e w' => e = .returned (.pointer (some ⟨w.heap.size, 0, none⟩)) ∧ EncAt w' w.heap.size ∧ Below w.heap.size w w' ∧ w.heap.size < w'.heap.size := by
  have hs64 := slice64 w.heap.size
  have hs256 := slice256 w.heap.size
  have h2 : (w.alloc (.cells encC1 153 (0, 0))).heap[w.heap.size]? = some (.cells encC1 153 (0, 0)) := heap_alloc_new w _
  have h3 := setRow_heap _ w.heap.size encC1 encC2 153 (0, 0) h2
  have h4 := setRow_heap _ w.heap.size encC2 encC3 153 (0, 0) h3
  have hb0 : Below w.heap.size w ((w.alloc (.cells encC1 153 (0, 0))).setRow w.heap.size encC2 |>.setRow w.heap.size encC3) :=
    below_setRow (below_setRow ((Below.refl _ _).alloc (Nat.le_refl _) _) (Nat.le_refl _) _) (Nat.le_refl _) _
  obtain ⟨W2, hW2⟩ : ∃ W2, W2 = (w.alloc (.cells encC1 153 (0, 0))).setRow w.heap.size encC2 := ⟨_, rfl⟩
  rw [← hW2] at h3 h4 hb0
  obtain ⟨W3, hW3⟩ : ∃ W3, W3 = W2.setRow w.heap.size encC3 := ⟨_, rfl⟩
  have hcp1 : (Builtin.copy_ #[22, 9] 3 #[.slice (some ⟨w.heap.size, 0, none⟩) 64 64, .string alS]).run Tryz.prog (w.alloc (.cells (Tryz.zeroCells153.setIfInBounds 320 (.int .i32 61)) 153 (0, 0))) = .ok (goInt alS.size) W2 := by rw [hW2]; exact copy_al h2 3
  have hcp2 : ∀ B, B = mapS → (Builtin.copy_ #[22, 9] 3 #[.slice (some ⟨w.heap.size, 64, none⟩) 256 256, .string B]).run Tryz.prog W2 = .ok (goInt mapS.size) W3 := by
    intro B hB
    rw [hB, hW3]
    exact copy_map h3 3
  have HCP2 := Lib.hid hcp2
  rw [← hW3] at h4 hb0
  have HI : RowKit.Hid (EncI w W3 w.heap.size 0) :=
    ⟨fun c hc => ⟨255, by decide, cell_of_heap h4 _ (c3_at hc), fun _ => rfl⟩, cell_of_heap h4 _ c3_pad, cell_of_heap h4 _ c3_strict, fun i => free_of_heap h4 i, hb0⟩
  clear h2 h3 h4 hb0 hcp2 hW2 hW3
  have hsz : (alS.size : Int) = 64 := rfl
  go_enter Tryz.func135, Tryz.ntmps135
  go_wp2
  rw [HCP2.out _ (by show _ = _; kernel_rfl)]
  clear hs64 hs256 hcp1 HCP2
  go_wp2
  go_loopw [4] (fun i wr => ∃ k : Nat, i = .int .i64 k ∧ k ≤ 64 ∧ EncI w wr w.heap.size k) (fun i _ => 64 - (intOf i).toNat)
  case atStart => exact ⟨0, rfl, by decide, HI.out⟩
  case round =>
    obtain ⟨k, rfl, hk, hI⟩ := hrel
    have HK := Lib.hid hI
    by_cases hlt : k < 64
    case neg =>
      obtain rfl : k = 64 := by omega
      clear hI
      go_wp2
      go_ret
      exact ⟨rfl, ⟨fun c hc => by obtain ⟨v, h1, h2, -⟩ := HK.out.dm c hc; exact ⟨v, h1, h2⟩, HK.out.pad, HK.out.strict⟩, HK.out.below, by have := World.block_lt_of_cell? _ _ HK.out.pad; exact this⟩
    case pos =>
      obtain ⟨g0, g1, g2, g3⟩ := al_k hlt
      have hix := al_index k hlt
      obtain ⟨v, hv, hc, hv'⟩ := hI.dm _ g0
      obtain rfl := hv' (fun j hj e => g3 j hj e)
      have hfr := hI.free (64 + alN k)
      have hw : IntKind.u8.wrap (k : Int) = k := IntWalk.u8_in _ (by omega)
      have n10 : ((alN k : Int) == 10) = false := beq_eq_false_iff_ne.2 (by omega)
      have n13 : ((alN k : Int) == 13) = false := beq_eq_false_iff_ne.2 (by omega)
      have hc' : wr.cell? ⟨w.heap.size, 64 + alN k, none⟩ = some (.int .u8 255) := hc
      clear hI hv hv' hc
      go_wp2
      go_quiet (fail)
      go_wp2
      go_region
      go_wp2
      go_roundw
      case rel => exact ⟨k + 1, by go_num, by omega, HK.out.step hlt _⟩
      case measure => simp [intOf]; omega
end Go.Proofs.YtaecbclonmhbcaaGreatDoor

/- base64's small functions: the encoding, its lengths, the digits put together, the bytes put down. -/
namespace Go.Proofs.YtaecbclonmhbcaaGreatDoor
open Go.RowKit

set_option maxHeartbeats 1000000 in
set_option maxRecDepth 100000 in
theorem stdEnc_any (w : World) : Calls Tryz.prog 112 #[] w fun e w' => e = .returned (.pointer (some ⟨w.heap.size, 0, none⟩)) ∧ EncAt w' w.heap.size ∧ Below w.heap.size w w' ∧ w.heap.size < w'.heap.size := by
  go_enter Tryz.func112, Tryz.ntmps112
  go_wp2_with (go_at_call 135; refine (newEnc_any _).mono ?_; rintro e w1 ⟨rfl, h1, h2, h3⟩)
  go_ret
  exact ⟨rfl, h1, h2, h3⟩

set_option maxHeartbeats 1000000 in
theorem decLen_any (n : Nat) (hn : n ≤ 100000) (w : World) : Calls Tryz.prog 136 #[.int .i64 n, .int .i32 61] w fun e w' => e = .returned (.int .i64 ((n / 4 * 3 : Nat) : Int)) ∧ w = w' := by
  have t1 : (n : Int).tdiv 4 = ((n / 4 : Nat) : Int) := by rw [Int.tdiv_eq_ediv_of_nonneg (by omega)]; omega
  have t2 : IntKind.i64.wrap ((n / 4 : Nat) : Int) = ((n / 4 : Nat) : Int) := IntWalk.i64_in _ (by omega)
  have t3 : IntKind.i64.wrap (((n / 4 : Nat) : Int) * 3) = ((n / 4 * 3 : Nat) : Int) := by rw [IntWalk.i64_in _ (by omega)]; omega
  go_enter Tryz.func136, Tryz.ntmps136
  go_wp2
  go_ret
  exact ⟨rfl, rfl⟩
set_option maxHeartbeats 1000000 in
theorem decodedLen_any {w : World} {e : Nat} (h : EncAt w e) (n : Nat) (hn : n ≤ 100000) : Calls Tryz.prog 113 #[.pointer (some ⟨e, 0, none⟩), .int .i64 n] w fun e w' => e = .returned (.int .i64 ((n / 4 * 3 : Nat) : Int)) ∧ w = w' := by
  have c := h.pad
  go_enter Tryz.func113, Tryz.ntmps113
  go_wp2_with (go_at_call 136; refine (decLen_any n hn _).mono ?_; rintro e w1 ⟨rfl, rfl⟩)
  go_ret
  exact ⟨rfl, rfl⟩

set_option maxHeartbeats 2000000 in
theorem asm64_any (a b c d e f g h : Int) (w : World) : Calls Tryz.prog 137 #[.int .u8 a, .int .u8 b, .int .u8 c, .int .u8 d, .int .u8 e, .int .u8 f, .int .u8 g, .int .u8 h] w fun e w' => ∃ (x : Int) (o : Bool), e = .returned (.tuple #[.int .u64 x, .bool o]) ∧ w = w' := by
  go_enter Tryz.func137, Tryz.ntmps137
  go_wp2
  all_goals (go_ret2; exact ⟨_, _, rfl, rfl⟩)
set_option maxHeartbeats 2000000 in
theorem asm32_any (a b c d : Int) (w : World) : Calls Tryz.prog 140 #[.int .u8 a, .int .u8 b, .int .u8 c, .int .u8 d] w fun e w' => ∃ (x : Int) (o : Bool), e = .returned (.tuple #[.int .u32 x, .bool o]) ∧ w = w' := by
  go_enter Tryz.func140, Tryz.ntmps140
  go_wp2
  all_goals (go_ret2; exact ⟨_, _, rfl, rfl⟩)

/-- Bytes to write into, L of them. -/
structure DstAt (w : World) (d L : Nat) : Prop where
  cell : ∀ i, i < L → ∃ v, w.cell? ⟨d, i, none⟩ = some (.int .u8 v)
  free : ∀ i, w.frozen? ⟨d, i, none⟩ = false
theorem DstAt.set {w : World} {d L : Nat} (h : DstAt w d L) (j : Nat) (v : Int) : DstAt (w.setCell ⟨d, j, none⟩ (.int .u8 v)) d L :=
  ⟨fun i hi => by
    obtain ⟨x, hx⟩ := h.cell i hi
    by_cases e : i = j
    · subst e; exact ⟨v, cell_set_same hx⟩
    · exact ⟨x, cell_set_other hx e⟩, free_set h.free⟩
theorem DstAt.drewN {w : World} {d L : Nat} (h : DstAt w d L) (n : Nat) : DstAt (w.drewN n) d L := ⟨h.cell, h.free⟩
/-- The bytes stay bytes, all else stays. -/
def Wrote (d L : Nat) (w w' : World) : Prop := DstAt w' d L ∧ Kept d w w'

set_option maxHeartbeats 4000000 in
set_option maxRecDepth 100000 in
theorem put64_any {w : World} {d L : Nat} (h : DstAt w d L) (o n c : Nat) (h8 : 8 ≤ n) (hL : o + n ≤ L) (x : Int) : Calls Tryz.prog 138 #[.slice (some ⟨d, o, none⟩) n c, .int .u64 x] w fun e w' => e = .returned (.tuple #[]) ∧ Wrote d L w w' := by
  have H := Lib.hid h
  obtain ⟨v0, c0⟩ := h.cell o (by omega)
  obtain ⟨v1, c1⟩ := h.cell (o + 1) (by omega)
  obtain ⟨v2, c2⟩ := h.cell (o + 2) (by omega)
  obtain ⟨v3, c3⟩ := h.cell (o + 3) (by omega)
  obtain ⟨v4, c4⟩ := h.cell (o + 4) (by omega)
  obtain ⟨v5, c5⟩ := h.cell (o + 5) (by omega)
  obtain ⟨v6, c6⟩ := h.cell (o + 6) (by omega)
  obtain ⟨v7, c7⟩ := h.cell (o + 7) (by omega)
  have f := h.free
  have l0 : (0 : Int) < n := by omega
  have l1 : (1 : Int) < n := by omega
  have l2 : (2 : Int) < n := by omega
  have l3 : (3 : Int) < n := by omega
  have l4 : (4 : Int) < n := by omega
  have l5 : (5 : Int) < n := by omega
  have l6 : (6 : Int) < n := by omega
  have l7 : (7 : Int) < n := by omega
  clear h
  go_enter Tryz.func138, Tryz.ntmps138
  go_wp2
  refine bodyPost_end (results_none rfl _ _ _) rfl ⟨rfl, ?_, ?_⟩
  · iterate 8 refine DstAt.set ?_ _ _
    exact H.out
  · iterate 8 refine Kept.setCell ?_ _ _
    exact Kept.refl d w
set_option maxHeartbeats 4000000 in
set_option maxRecDepth 100000 in
theorem put32_any {w : World} {d L : Nat} (h : DstAt w d L) (o n c : Nat) (h8 : 4 ≤ n) (hL : o + n ≤ L) (x : Int) : Calls Tryz.prog 141 #[.slice (some ⟨d, o, none⟩) n c, .int .u32 x] w fun e w' => e = .returned (.tuple #[]) ∧ Wrote d L w w' := by
  have H := Lib.hid h
  obtain ⟨v0, c0⟩ := h.cell o (by omega)
  obtain ⟨v1, c1⟩ := h.cell (o + 1) (by omega)
  obtain ⟨v2, c2⟩ := h.cell (o + 2) (by omega)
  obtain ⟨v3, c3⟩ := h.cell (o + 3) (by omega)
  have f := h.free
  have l0 : (0 : Int) < n := by omega
  have l1 : (1 : Int) < n := by omega
  have l2 : (2 : Int) < n := by omega
  have l3 : (3 : Int) < n := by omega
  clear h
  go_enter Tryz.func141, Tryz.ntmps141
  go_wp2
  refine bodyPost_end (results_none rfl _ _ _) rfl ⟨rfl, ?_, ?_⟩
  · iterate 4 refine DstAt.set ?_ _ _
    exact H.out
  · iterate 4 refine Kept.setCell ?_ _ _
    exact Kept.refl d w
end Go.Proofs.YtaecbclonmhbcaaGreatDoor

/- What every statement of the seat ends with: the listed errors, the arguments that stay, the reading behind the call. -/
namespace Go.Proofs.YtaecbclonmhbcaaGreatDoor
open Go.RowKit Go.WideShapes Go.ChangeShapes

/-- A slice of bytes that came in: no bytes at whatever place, or bytes in memory. -/
def BytesArg (w : World) (v : Value) (l : List Int) : Prop := (l = [] ∧ ∃ a c, v = .slice (some a) 0 c) ∨ BytesAt w (fun _ => False) v l

theorem kids : Kids Tryz.prog (· < Tryz.prog.types.size) := kids_rows (by kernel_rfl) (by kernel_rfl)
theorem full : ∀ t e, t < Tryz.prog.types.size → Tryz.prog.underlying t = some (.slice e) → 0 < Tryz.prog.cellsOf e := slices_full_of Tryz.prog (by kernel_rfl)
theorem own : ownKnob Tryz.prog.godebug = none := by kernel_rfl

/-- The listed tables: one list for every row. -/
noncomputable def laidL : List (String × DataW Unit) := Rows.fnLexDelimsRow.laid

theorem star191 : "*" ++ "errors.errorString" = "*errors.errorString" := by decide
theorem row191 (u : TypeId) (h : Tryz.prog.typeName? 3 u = some "*errors.errorString") : u = 191 :=
  typeName_ptr_named (nm := "errors.errorString") (by rw [star191]; kernel_rfl) (by kernel_rfl) (by decide) u (by rw [star191]; exact h)
theorem gEOF : Tryz.prog.globalNamed "io.EOF" = some 1 := by kernel_rfl
theorem gOther : Tryz.prog.globalNamed "pub-duolect/impl.errOther" = some 0 := by kernel_rfl

/-- The two named errors in a world that holds the tables. -/
theorem env_of_laid {W : World} (h : laidMetH Tryz.prog laidL W) :
    ∃ (ae ao : Addr) (c0 c1 : Array Value) (t0 t1 : TypeId), Env W ⟨ae, fun _ => False⟩ ao ∧ 1 < W.heap.size ∧ W.heap[ae.block]? = some (.cells c0 t0 (0, 0)) ∧ W.heap[ao.block]? = some (.cells c1 t1 (0, 0)) := by
  rw [MakeChecks.laidMetH_plain _ _ _ (by kernel_rfl)] at h
  have h12 := h.tail.tail.tail.tail.tail.tail.tail.tail.tail.tail.tail.tail
  obtain ⟨a0, a1, s0, s1, c0, c1, t0, t1, hv0, hv1, -, -, -, -, -, -, hne, hb0, hb1⟩ := laid_sentinels2 h12 gEOF (by kernel_rfl) gOther (by kernel_rfl) Tryz.underlying63 row191 Tryz.underlying191 Tryz.underlying193 rfl rfl Tryz.underlying9 (by kernel_rfl) (by kernel_rfl)
  have e0 : W.cell? ⟨1, 0, none⟩ = some (.iface 191 (.pointer (some a0))) := by have := World.var?_cell gEOF hv0 0; simpa using this
  have e1 : W.cell? ⟨0, 0, none⟩ = some (.iface 191 (.pointer (some a1))) := by have := World.var?_cell gOther hv1 0; simpa using this
  exact ⟨a0, a1, c0, c1, t0, t1, ⟨e0, e1, hne⟩, World.block_lt_of_cell? W _ e0, hb0, hb1⟩

section
variable {H : Type} {enc : TypeId × Value → H}
theorem args_stay {W W' : World} (hb : Below W.heap.size W W') {sp' : Nat → Bool} : ∀ {ts : List TypeId} {vs : List Value} {ds : List (DataW H)} {ps : List MemPlace}, (∀ t ∈ ts, t < Tryz.prog.types.size) →
    DataW.TrodAll enc Tryz.prog W 0 (fun _ => true) true ts vs ds ps → (∀ p ∈ ps, p.block < W.heap.size) → (∀ p ∈ ps, sp' p.block = true) → DataW.TrodAll enc Tryz.prog W' 0 sp' true ts vs ds ps
  | [], [], [], _, _, h, _, _ => h
  | _ :: _, _ :: _, _ :: _, _, hT, ⟨p, q, h1, h2, e⟩, hl, hs => by
    subst e
    obtain ⟨n, hn⟩ := h1
    refine ⟨p, q, ⟨n, ?_⟩, args_stay hb (fun t ht => hT t (List.mem_cons_of_mem _ ht)) h2 (fun x hx => hl x (List.mem_append_right _ hx)) (fun x hx => hs x (List.mem_append_right _ hx)), rfl⟩
    exact DataW.trod_stays kids (fun {t e} => full t e) (fun h => by cases h) (hT _ (List.mem_cons_self ..)) hn (fun x hx => hb.same (hl x (List.mem_append_left _ hx))) (fun x hx => hs x (List.mem_append_left _ hx))

set_option maxRecDepth 100000 in
/-- Behind a call that told true and left all that was. -/
theorem law_post {f : Func} {s : ChangeSpec} {W W' : World} {args : Array Value} {ds gs : List (DataW H)} {before : List MemPlace}
    (hW : DataW.Whole enc Tryz.prog f.params.toList s.vars false W args.toList ds gs before) (hv : s.vars = []) (hr : f.resultTypes = #[4]) (hf : ∀ t ∈ f.params.toList, t < Tryz.prog.types.size)
    (hs : s.fn H (ds ++ gs) = { results := [.lit (.bool true)], args := ds }) (hb : Below W.heap.size W W') :
    s.post enc Tryz.prog f false true false false W args (.bool true) W' := by
  have hlt : ∀ p ∈ before, p.block < W.heap.size := fun p hp => hW.lt p hp
  have hold : ∀ p ∈ before, (fun b => decide (b < W.heap.size)) p.block = true := fun p hp => by simpa using hlt p hp
  have hW' := hW
  obtain ⟨pa, pv, hA, hV, hps, hz, hn⟩ := hW
  rw [hv] at hV
  obtain ⟨hg, hpv⟩ := trodVars_none hV
  subst hpv
  rw [List.append_nil] at hps
  subst hps
  have hres : ∀ (b : Nat) (sp : Nat → Bool) (hd : Bool), DataW.TrodAll enc Tryz.prog W' b sp hd f.resultTypes.toList ((Value.bool true).resultList f.resultTypes.size) (s.fn H (ds ++ gs)).results [] := fun b sp hd => by
    rw [hr, hs]; exact trodAll_mk1 (shut_bool Tryz.underlying4 _)
  have hargs : ∀ sp : Nat → Bool, (∀ p ∈ before, sp p.block = true) → DataW.TrodAll enc Tryz.prog W' 0 sp true f.params.toList args.toList (s.fn H (ds ++ gs)).args before := fun sp hsp => by
    rw [hs]; exact args_stay hb hf hA hlt hsp
  have hvars : ∀ sp : Nat → Bool, DataW.TrodVars enc Tryz.prog W' sp s.vars (s.fn H (ds ++ gs)).vars [] := fun sp => by
    rw [hs, hv]; rfl
  refine ⟨ds, gs, before, [], before, [], hW', hres _ _ _, hargs _ hold, hvars _, World.keptBut_mono (fun p hp => ⟨hp, ?_⟩) (hb.frame (· ∈ before)), fun _ => ?_⟩
  · exact Or.inr (by simpa using hp)
  · have hok : ∀ (j : Nat) (t : TypeId) (r : Value), f.resultTypes[j]? = some t → ((Value.bool true).resultList f.resultTypes.size)[j]? = some r → Value.okWide Tryz.prog W' .any 0 t r :=
      ok_one hr rfl (okWide_bool_mk Tryz.underlying4 _)
    refine ⟨hok, _, _, ([] ++ before) ++ [], ⟨[] ++ before, [], trodAll_append (hargs _ (fun _ _ => rfl)) (hres _ _ _), hvars _, rfl, ?_, ?_⟩, ?_⟩
    · intro b off hp
      have hin : MemPlace.cell b off ∈ before := by simpa using hp
      rw [hb.frozen (hlt _ hin)]
      exact hz b off hin
    · intro ha
      have := hn ha
      simpa using this
    · intro p hp _
      simpa using hp

theorem cells5 : Tryz.prog.cellsOf 5 = 1 := by kernel_rfl
set_option maxRecDepth 100000 in
/-- A slice of bytes that came in. -/
theorem bytes_arg {W : World} {base : Nat} {v : Value} {d : DataW H} {p : List MemPlace} (hval : Value.okWide Tryz.prog W .any base 22 v) (h : DataW.Trod enc Tryz.prog W 0 (fun _ => true) true 22 v d p) :
    ∃ (a : Option Addr) (n cap : Nat) (l : List Int), v = .slice a n cap ∧ BytesArg W (.slice a n cap) l ∧ Bytes l ∧ n = l.length := by
  obtain ⟨a0, len, cap, rfl⟩ := okWide_slice Tryz.underlying22 hval
  obtain ⟨fuel, hf⟩ := h
  rcases open_ints Tryz.underlying22 Tryz.underlying5 cells5 hf with ⟨hcs, -⟩ | ⟨a, len', cap', zs, hcs, -, hl, -, hz, -, hcell, hwz⟩
  · simp [Value.cells] at hcs
    obtain ⟨rfl, rfl, rfl⟩ := hcs
    exact ⟨none, 0, 0, [], rfl, .inr (.inl ⟨rfl, rfl⟩), fun i => by simp, rfl⟩
  · simp [Value.cells] at hcs
    obtain ⟨rfl, rfl, rfl⟩ := hcs
    simp only [if_true] at hz
    by_cases h0 : len = 0
    · subst h0
      exact ⟨some a, 0, cap, [], rfl, .inl ⟨rfl, _, _, rfl⟩, fun i => by simp, rfl⟩
    have hsp : a.spot = none := by simpa [Addr.add] using World.cell?_spot (hcell 0 (by omega))
    obtain ⟨b, o, sp⟩ := a
    simp only at hsp
    subst hsp
    have hlen : (zs.take len).length = len := by rw [List.length_take]; omega
    refine ⟨some ⟨b, o, none⟩, len, cap, zs.take len, rfl, .inr (.inr ⟨b, o, cap, by rw [hlen], by rw [hlen]; exact hl, ⟨id, World.block_lt_of_cell? W _ (hcell 0 (by omega))⟩, fun i hi => ?_⟩), fun i => ?_, hlen.symm⟩
    · rw [hlen] at hi
      have := hcell i (by omega)
      rw [show (⟨b, o, none⟩ : Addr).add i = ⟨b, o + i, none⟩ by unfold Addr.add; split <;> simp_all] at this
      rw [this]
      simp [List.getD, hi]
    · by_cases hi : i < (zs.take len).length
      · rw [List.getD, List.getElem?_eq_getElem hi]
        exact bounds_u8 (hwz _ (List.mem_of_mem_take (List.getElem_mem hi)))
      · simp [List.getD, List.getElem?_eq_none (Nat.le_of_not_lt hi)]
end
end Go.Proofs.YtaecbclonmhbcaaGreatDoor

/- What a listed variable holds, read off its datum: a slice of elements, an array of pairs, floats. No program. -/
namespace Go.Proofs.YtaecbclonmhbcaaGreatDoor
open Go.RowKit Go.Lib

section
variable {H : Type} {enc : TypeId × Value → H} {P : Program} {w : World} {base : Nat} {spare : Nat → Bool} {held : Bool} {fuel : Nat} {t : TypeId} {cs : List Value} {x : DataW H × List MemPlace}
theorem trod_float {k : FloatKind} (ht : P.underlying t = some (.float k)) (h : DataW.trod enc P w base spare held fuel t cs = some x) : ∃ n, cs = [.float k n] := by
  cases fuel with
  | zero => simp [DataW.trod] at h
  | succ n =>
    unfold DataW.trod at h
    rw [ht] at h
    split at h <;> simp_all

/-- A variable that is a slice: where its elements lie, and what each reads as. -/
theorem slice_of_reads {name : String} {g : Nat} {e : TypeId} {ds : List (DataW Unit)} (hn : P.globalNamed name = some g) (hy : (P.globals[g]?).map (·.type) = some t)
    (ht : P.underlying t = some (.slice e)) (hc : 0 < P.cellsOf e) (hl : 0 < ds.length) (h : VarReads P w name (.slice ds [])) :
    ∃ R o cap, w.cell? ⟨g, 0, none⟩ = some (.slice (some ⟨R, o, none⟩) ds.length cap) ∧ ds.length ≤ cap ∧ R < w.heap.size ∧ ∀ i, i < ds.length → ∃ (ce : List Value) (f : Nat) (d : DataW Unit) (p : List MemPlace), ds[i]? = some d ∧ ce.length = P.cellsOf e ∧
      (∀ j, j < P.cellsOf e → w.cell? ⟨R, o + i * P.cellsOf e + j, none⟩ = ce[j]?) ∧ DataW.trod (fun _ => ()) P w 0 (fun _ => true) false f e ce = some (d, p) := by
  obtain ⟨g', t', cs, fuel, p, hg, hty, hvar, hd⟩ := h
  obtain rfl := Option.some.inj (hn.symm.trans hg)
  obtain rfl := Option.some.inj (hy.symm.trans hty)
  rcases DataW.trod_slice ht hd with ⟨_, hx⟩ | ⟨a, len, cap, el, rs, m, rfl, hcs, hx, _, hlc, _, hel, helem, hsp, _⟩
  · cases hx
  have e0 := congrArg Prod.fst hx
  simp only [DataW.slice.injEq] at e0
  obtain ⟨eE, eR⟩ := e0
  have hlen : len = ds.length := by
    have := congrArg List.length eE
    simp at this
    omega
  have hcell : ∀ i, i < ds.length → ∃ (ce : List Value) (d : DataW Unit) (q : List MemPlace), ds[i]? = some d ∧ ce.length = P.cellsOf e ∧ (∀ j, j < P.cellsOf e → w.cell? ((a.add (i * P.cellsOf e)).add j) = ce[j]?) ∧ DataW.trod (fun _ => ()) P w 0 (fun _ => true) false m e ce = some (d, q) := by
    intro i hi
    have h1 := helem i (by omega)
    obtain ⟨b, hb⟩ : ∃ b, el[i]? = some b := ⟨el[i]'(by omega), List.getElem?_eq_getElem (by omega)⟩
    rw [hb] at h1
    obtain ⟨ce, hce, hte⟩ := Option.bind_eq_some_iff.1 h1
    obtain ⟨_, hcl, hcc⟩ := World.cells?_some hce
    refine ⟨ce, b.1, b.2, ?_, hcl, hcc, hte⟩
    have := congrArg (·[i]?) eE
    simp [hb] at this
    exact this
  obtain ⟨R, o, sR⟩ := a
  have hspot : sR = none := by
    obtain ⟨ce, d, q, _, hcl, hcc, _⟩ := hcell 0 hl
    have h00 := hcc 0 hc
    have hx : (Addr.add (Addr.add ⟨R, o, sR⟩ (0 * P.cellsOf e)) 0) = ⟨R, o, sR⟩ := by simp [Addr.add]
    rw [hx, List.getElem?_eq_getElem (by omega)] at h00
    exact Go.Proofs.cell_spot h00
  subst hspot
  have hadd : ∀ i j, (Addr.add (Addr.add ⟨R, o, none⟩ i) j) = ⟨R, o + i + j, none⟩ := fun i j => by rw [Addr.add_lit, Addr.add_lit]
  refine ⟨R, o, cap, ?_, by omega, ?_, fun i hi => ?_⟩
  · rw [World.var?_cell hg hvar 0, ← Array.getElem?_toList, hcs, hlen]
    rfl
  · obtain ⟨ce, d, q, _, hcl, hcc, _⟩ := hcell 0 hl
    have h00 := hcc 0 hc
    rw [hadd, List.getElem?_eq_getElem (by omega)] at h00
    exact World.block_lt_of_cell? w _ h00
  · obtain ⟨ce, d, q, h1, h2, h3, h4⟩ := hcell i hi
    exact ⟨ce, m, d, q, h1, h2, fun j hj => by rw [← hadd]; exact h3 j hj, h4⟩

/-- A variable's own cells. -/
theorem var_of_reads {name : String} {g : Nat} {d : DataW Unit} (hn : P.globalNamed name = some g) (hy : (P.globals[g]?).map (·.type) = some t) (h : VarReads P w name d) :
    ∃ (cs : List Value) (f : Nat) (p : List MemPlace), DataW.trod (fun _ => ()) P w 0 (fun _ => true) false f t cs = some (d, p) ∧ ∀ i, w.cell? ⟨g, i, none⟩ = cs[i]? := by
  obtain ⟨g', t', cs, fuel, p, hg, hty, hvar, hd⟩ := h
  obtain rfl := Option.some.inj (hn.symm.trans hg)
  obtain rfl := Option.some.inj (hy.symm.trans hty)
  exact ⟨cs.toList, fuel, p, hd, fun i => by rw [World.var?_cell hg hvar i, Array.getElem?_toList]⟩
end
end Go.Proofs.YtaecbclonmhbcaaGreatDoor
