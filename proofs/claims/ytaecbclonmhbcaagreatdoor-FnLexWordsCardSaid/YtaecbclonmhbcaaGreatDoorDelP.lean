/- laws.FnLexDelims: what its first loop keeps, and facts for its walk. -/
import Derived.Test.YtaecbclonmhbcaaGreatDoorPlainD
import Derived.Test.YtaecbclonmhbcaaGreatDoorApp
namespace Go.Proofs.YtaecbclonmhbcaaGreatDoor
open Go.RowKit

theorem rowB_take_succ {l : List Int} {k : Nat} (h : k < l.length) : l.take (k + 1) = l.take k ++ [l.getD k 0] := by
  rw [List.take_succ_eq_append_getElem h]; simp [List.getD, h]
theorem rowC_snoc (l : List Int) (c : Int) : rowC (l ++ [c]) = rowC l ++ [(2, c), (1, c)] := by simp [rowC]
theorem rowB_at : ∀ (r : List Bool) (k : Nat), k < (rowB r).length → (rowB r).getD k 0 = if r.getD k false then 123 else 91
  | [], k, h => absurd h (by simp [rowB])
  | true :: r, 0, _ => rfl
  | true :: r, k + 1, h => absurd h (by simp [rowB])
  | false :: r, 0, _ => rfl
  | false :: r, k + 1, h => by
    have := rowB_at r k (by simpa [rowB] using h)
    simpa [rowB] using this
/-- Before a further bracket no brace has stood. -/
theorem rowB_before : ∀ (r : List Bool) (j : Nat), j + 1 < (rowB r).length → r.getD j false = false
  | [], j, h => absurd h (by simp [rowB])
  | true :: r, j, h => absurd h (by simp [rowB])
  | false :: r, 0, _ => rfl
  | false :: r, j + 1, h => by
    have := rowB_before r j (by simpa [rowB] using h)
    simpa using this
/-- Where the row ends early, a brace stood last. -/
theorem rowB_last : ∀ (r : List Bool) (j : Nat), j + 1 = (rowB r).length → j + 1 < r.length → r.getD j false = true
  | [], j, _, h => absurd h (by simp)
  | true :: r, j, h, _ => by
    obtain rfl : j = 0 := by simpa [rowB] using h
    rfl
  | false :: r, 0, h, h2 => by
    have h0 : (rowB r).length = 0 := by simp [rowB] at h; simpa using h
    cases r with
    | nil => simp at h2
    | cons b r => cases b <;> simp [rowB] at h0
  | false :: r, j + 1, h, h2 => by
    have := rowB_last r j (by simpa [rowB] using h) (by simpa using h2)
    simpa using this
theorem rowB_pos {r : List Bool} (h : r ≠ []) : 0 < (rowB r).length := by
  cases r with
  | nil => exact absurd rfl h
  | cons b r => cases b <;> simp [rowB]
theorem rowC_mem {l : List Int} {p : Int × Int} (h : p ∈ rowC l) : (p.1 = 2 ∨ p.1 = 1) ∧ p.2 ∈ l := by
  obtain ⟨c, hc, hp⟩ := List.mem_flatMap.1 h
  simp only [List.mem_cons, List.not_mem_nil, or_false] at hp
  rcases hp with rfl | rfl
  · exact ⟨.inl rfl, hc⟩
  · exact ⟨.inr rfl, hc⟩
theorem rowC_ok (r : List Bool) : ∀ p ∈ rowC (rowB r), OkCall p := fun p hp => by
  obtain ⟨h1, h2⟩ := rowC_mem hp
  have := rowB_mem r _ h2
  exact ⟨by rcases h1 with h | h <;> simp [h], by rcases this with h | h <;> omega⟩
theorem rowB_bytes (r : List Bool) : Bytes (rowB r) := fun i => by
  by_cases h : i < (rowB r).length
  · rw [rowB_at r i h]; split <;> decide
  · simp [List.getD, List.getElem?_eq_none (Nat.le_of_not_lt h)]

/-- What a row of results holds, by the place. -/
theorem gotCells_get : ∀ (l : List (Int × Int × Int)) (k : Nat), k < l.length →
    (gotCells l)[k * 4]? = some (.int .i64 (l.getD k (0, 0, 0)).1) ∧ (gotCells l)[k * 4 + 2]? = some (.int .i64 (l.getD k (0, 0, 0)).2.1) ∧ (gotCells l)[k * 4 + 3]? = some (.int .i64 (l.getD k (0, 0, 0)).2.2)
  | [], k, h => absurd h (by simp)
  | c :: l, 0, _ => ⟨rfl, rfl, rfl⟩
  | c :: l, k + 1, h => by
    have ih := gotCells_get l k (by simpa using h)
    have e : gotCells (c :: l) = [.int .i64 c.1, .slice none 0 0, .int .i64 c.2.1, .int .i64 c.2.2] ++ gotCells l := by simp [gotCells]
    rw [e]
    have e0 : (k + 1) * 4 = 4 + k * 4 := by omega
    refine ⟨?_, ?_, ?_⟩
    · rw [e0, List.getElem?_append_right (by simp)]; simpa using ih.1
    · rw [e0, show 4 + k * 4 + 2 = 4 + (k * 4 + 2) from by omega, List.getElem?_append_right (by simp)]; simpa using ih.2.1
    · rw [e0, show 4 + k * 4 + 3 = 4 + (k * 4 + 3) from by omega, List.getElem?_append_right (by simp)]; simpa using ih.2.2

/-- Two slices of one's own lie apart. -/
def ApartV (vb vd : Value) : Prop := ∀ j, vb.ownBlock = some j → vd.ownBlock ≠ some j

/-- A round that appends: a byte, and two calls. -/
theorem del_step {w wr : World} {B : Nat} {vb vd : Value} {bs : List Int} {cs : List (Int × Int)} (hob : wr.ownsRow B 5 1 vb bs.length (byteVs bs)) (hod : wr.ownsRow B 27 3 vd cs.length (callVs cs))
    (hap : ApartV vb vd) (hbel : Below B w wr) (hB : B ≤ wr.heap.size) (ch : Int) (hn : bs.length ≤ 1000) (hm : cs.length ≤ 1000) :
    ∃ vb1 w1 vd1 w2, (Builtin.append_ #[22, 22] 22 #[vb, .slice (some ⟨wr.heap.size, 0, none⟩) 1 1]).run Tryz.prog (wr.alloc (.cells #[.int .u8 ch] 5)) = .ok vb1 w1 ∧
      (Builtin.append_ #[28, 28] 28 #[vd, .slice (some ⟨w1.heap.size, 0, none⟩) 2 2]).run Tryz.prog (w1.alloc (.cells #[.int .i64 2, .int .i64 ch, .slice none 0 0, .int .i64 1, .int .i64 ch, .slice none 0 0] 27)) = .ok vd1 w2 ∧
      w2.ownsRow B 5 1 vb1 (bs ++ [ch]).length (byteVs (bs ++ [ch])) ∧ w2.ownsRow B 27 3 vd1 (cs ++ [(2, ch), (1, ch)]).length (callVs (cs ++ [(2, ch), (1, ch)])) ∧ ApartV vb1 vd1 ∧ Below B w w2 ∧ B ≤ w2.heap.size := by
  obtain ⟨vb1, w1, hr1, ho1, hg1, hk1⟩ := append_byte hob ch (by omega) hB
  have hod1 := hod.kept hg1 (by
    cases hv : vd.ownBlock with
    | none => exact .inl rfl
    | some g => exact .inr fun e => hap g e.symm hv)
  have hB1 : B ≤ w1.heap.size := Nat.le_trans hB hg1.size
  obtain ⟨vd1, w2, hr2, ho2, hg2, hk2⟩ := append_calls2 hod1 (2, ch) (1, ch) (by omega) hB1
  have hap1 : ApartV vb1 vd := fun j hj e => by
    rcases hk1 with h | ⟨m, hm, h⟩
    · exact hap j (by rw [← h]; exact hj) e
    · rw [h] at hj
      have := Option.some.inj hj
      have := (hod.lt j e).2
      omega
  have ho1' := ho1.kept hg2 (by
    cases hv : vb1.ownBlock with
    | none => exact .inl rfl
    | some g => exact .inr fun e => hap1 g hv e.symm)
  refine ⟨vb1, w1, vd1, w2, hr1, hr2, ho1', ho2, ?_, (hbel.grown hg1 hB (fun k e => (hob.lt k e).1)).grown hg2 hB1 (fun k e => (hod1.lt k e).1), Nat.le_trans hB1 hg2.size⟩
  intro j hj e
  rcases hk2 with h | ⟨m, hm, h⟩
  · exact hap1 j hj (by rw [← h]; exact e)
  · rw [h] at e
    have := Option.some.inj e
    have := (ho1.lt j hj).2
    omega

theorem Env.below {w w' : World} {ae : Sur} {ao : Addr} {B : Nat} (h : Env w ae ao) (hb : Below B w w') (hB : 1 < B) : Env w' ae ao :=
  ⟨(hb.cell (p := ⟨1, 0, none⟩) hB).trans h.eof, (hb.cell (p := ⟨0, 0, none⟩) (by show 0 < B; omega)).trans h.other, h.ne⟩

/-- The sign that is asked for at the end. -/
def wrongC (r : Int) : Int := if r = 0 then 93 else if r = 1 then 123 else if r = 2 then 125 else 91
theorem and3_all : ((List.range 256).all fun n => let r := bits .and .u8 (n : Int) 3; r == 0 || r == 1 || r == 2 || r == 3) = true := by kernel_rfl
theorem and3 (c : Int) (h0 : 0 ≤ c) (h1 : c ≤ 255) : bits .and .u8 c 3 = 0 ∨ bits .and .u8 c 3 = 1 ∨ bits .and .u8 c 3 = 2 ∨ bits .and .u8 c 3 = 3 := by
  obtain ⟨n, rfl⟩ : ∃ n : Nat, c = n := ⟨c.toNat, by omega⟩
  have := List.all_eq_true.1 and3_all n (List.mem_range.2 (by omega))
  simp only [Bool.or_eq_true, beq_iff_eq] at this
  omega
theorem wrong_index (r : Int) (h : r = 0 ∨ r = 1 ∨ r = 2 ∨ r = 3) (W : World) : (Instr.index 9 (.string ⟨#[93, 123, 125, 91]⟩) (.int .u8 r)).run Tryz.prog W = .ok (.int .u8 (wrongC r)) W := by
  rcases h with rfl | rfl | rfl | rfl <;> kernel_rfl
theorem wrongC_byte (r : Int) : 0 ≤ wrongC r ∧ wrongC r ≤ 255 := by
  unfold wrongC
  by_cases h0 : r = 0
  · simp [h0]
  by_cases h1 : r = 1
  · simp [h1]
  by_cases h2 : r = 2
  · simp [h2]
  · simp [h0, h1, h2]
end Go.Proofs.YtaecbclonmhbcaaGreatDoor
