/- Appending to slices that the call made itself: bytes, and calls. -/
import Derived.Test.YtaecbclonmhbcaaGreatDoorOne
namespace Go.Proofs.YtaecbclonmhbcaaGreatDoor
open Go.RowKit

theorem addr_add0 (g j : Nat) : (⟨g, 0, none⟩ : Addr).add j = ⟨g, j, none⟩ := by unfold Addr.add; split <;> simp_all
theorem addr_add (g o j : Nat) : (⟨g, o, none⟩ : Addr).add j = ⟨g, o + j, none⟩ := by unfold Addr.add; split <;> simp_all

theorem append_any {P : Program} {w : World} {base : Nat} {t e : TypeId} {i : TypeInfo} {z : Value} {size bytes : Nat} (ht : P.underlying t = some (.slice e)) (hi : P.info? e = some i) (hz : i.zero = some z)
    (hsize : i.size = size) (hby : i.bytes = bytes) (hzs : z.cells.size = size) (hsz : 0 < size) (hbl : bytes ≤ 1000)
    {v : Value} {n : Nat} {xs : List Value} (hown : w.ownsRow base e size v n xs) (ad : Addr) (m c : Nat) (news : List Value) (hl : news.length = m * size)
    (hnews : ∀ j u, news[j]? = some u → w.cell? (ad.add j) = some u) (h1 : ∀ u ∈ news, u.oneCell' = true) (hn : n + m ≤ 1000000) (hbase : base ≤ w.heap.size) :
    ∃ v' w', (Builtin.append_ #[t, t] t #[v, .slice (some ad) m c]).run P w = .ok v' w' ∧ w'.ownsRow base e size v' (n + m) (xs ++ news) ∧ w.grownBy w' v.ownBlock ∧
      (v'.ownBlock = v.ownBlock ∨ ∃ k, w.heap.size ≤ k ∧ v'.ownBlock = some k) := by
  have hbb : (n + m) * bytes ≤ 140737488355328 := Nat.le_trans (Nat.mul_le_mul hn hbl) (by decide)
  obtain ⟨v', w', hr, h2, h3, h4⟩ := run_append_own (P := P) w base t t e i z size bytes ht hi hz hsize hby hzs hsz v n xs hown ad m c news hl hnews h1 (by unfold maxLen; omega) hbb hbase
  refine ⟨v', w', hr, h2, h3, ?_⟩
  rcases hown.2 with ⟨rfl, rfl⟩ | ⟨g, cap, cur, rfl, hbg, hg, hnc, hcm, hcs, htake⟩
  · by_cases h0 : m = 0
    · rw [h4.2 ⟨rfl, h0⟩]; exact .inl rfl
    · have hr' := run_append_nil (P := P) w t t e i z ht hi hz ad m c news (by rw [hsize]; exact hl) hnews (by omega) (by omega) (by rw [hby]; exact Nat.le_trans (Nat.mul_le_mul_right _ (by omega)) (Nat.le_trans hbb (by decide)))
      rw [hr] at hr'
      simp only [Result.ok.injEq] at hr'
      rw [hr'.1]
      exact .inr ⟨_, Nat.le_refl _, rfl⟩
  · by_cases hroom : n + m ≤ cap
    · obtain ⟨w2, hr', -⟩ := run_append_fits (P := P) w base t t e i size ht hi hsize g n cap xs hown ad m c news hl hnews h1 hroom
      rw [hr] at hr'
      simp only [Result.ok.injEq] at hr'
      rw [hr'.1]
      exact .inl rfl
    · have hr' := run_append_grow (P := P) w t t e i z ht hi hz ⟨g, 0, none⟩ n cap xs (by rw [hown.1, hsize]) (hown.cells (g := g) rfl) ad m c news (by rw [hsize]; exact hl) hnews (by omega) (by omega) (growslice_fits (by omega) (by rw [hby]; exact hbb))
      rw [hr] at hr'
      simp only [Result.ok.injEq] at hr'
      rw [hr'.1]
      exact .inr ⟨_, Nat.le_refl _, rfl⟩

theorem info27 : (Tryz.prog.info? 27).map (fun i => (i.zero, i.size, i.bytes)) = some (some (Value.agg #[.int .i64 0, .int .i64 0, .slice none 0 0]), 3, 40) := by kernel_rfl

/-- The values of bytes. -/
def byteVs (l : List Int) : List Value := l.map (Value.int .u8)
theorem byteVs_append (a b : List Int) : byteVs (a ++ b) = byteVs a ++ byteVs b := by simp [byteVs]
theorem byteVs_one (l : List Int) : ∀ u ∈ byteVs l, u.oneCell' = true := by
  intro u hu
  obtain ⟨x, -, rfl⟩ := List.mem_map.1 hu
  rfl
/-- The values of a row of calls. -/
def callVs (l : List (Int × Int)) : List Value := l.flatMap fun c => [.int .i64 c.1, .int .i64 c.2, .slice none 0 0]
theorem callVs_append (a b : List (Int × Int)) : callVs (a ++ b) = callVs a ++ callVs b := by simp [callVs]
theorem callVs_length (l : List (Int × Int)) : (callVs l).length = l.length * 3 := by
  induction l with
  | nil => rfl
  | cons c l ih => simp only [callVs, List.flatMap_cons, List.length_append, List.length_cons, List.length_nil] at ih ⊢; omega
theorem callVs_get : ∀ (l : List (Int × Int)) (k : Nat), k < l.length → (callVs l)[k * 3]? = some (.int .i64 (l.getD k (0, 0)).1) ∧ (callVs l)[k * 3 + 1]? = some (.int .i64 (l.getD k (0, 0)).2) ∧ (callVs l)[k * 3 + 2]? = some (.slice none 0 0)
  | [], k, h => absurd h (by simp)
  | c :: l, 0, _ => ⟨rfl, rfl, rfl⟩
  | c :: l, k + 1, h => by
    have ih := callVs_get l k (by simpa using h)
    have e : callVs (c :: l) = [.int .i64 c.1, .int .i64 c.2, .slice none 0 0] ++ callVs l := by simp [callVs]
    rw [e]
    have e0 : (k + 1) * 3 = 3 + k * 3 := by omega
    refine ⟨?_, ?_, ?_⟩
    · rw [e0, List.getElem?_append_right (by simp)]; simpa using ih.1
    · rw [e0, show 3 + k * 3 + 1 = 3 + (k * 3 + 1) from by omega, List.getElem?_append_right (by simp)]; simpa using ih.2.1
    · rw [e0, show 3 + k * 3 + 2 = 3 + (k * 3 + 2) from by omega, List.getElem?_append_right (by simp)]; simpa using ih.2.2
theorem callVs_one (l : List (Int × Int)) : ∀ u ∈ callVs l, u.oneCell' = true := by
  intro u hu
  obtain ⟨x, -, h⟩ := List.mem_flatMap.1 hu
  simp only [List.mem_cons, List.not_mem_nil, or_false] at h
  rcases h with rfl | rfl | rfl <;> rfl

section
variable {w w' : World} {base : Nat} {v : Value} {n : Nat}
/-- A slice of one's own as the bytes that the lexer reads. -/
theorem ownsRow_bytes {l : List Int} (h : w.ownsRow base 5 1 v l.length (byteVs l)) {A : Nat → Prop} (hA : ∀ k, A k → k < base) : BytesAt w A v l := by
  rcases h.2 with ⟨rfl, h0⟩ | ⟨g, cap, cur, rfl, hbg, hg, hnc, hcm, hcs, htake⟩
  · exact .inl ⟨List.eq_nil_of_length_eq_zero h0, rfl⟩
  · refine .inr ⟨g, 0, cap, rfl, hnc, ⟨fun a => by have := hA g a; omega, lt_heap hg⟩, fun i hi => ?_⟩
    have := h.cellAt i (by omega)
    rw [Nat.zero_add, this]
    simp [byteVs, List.getD, hi]
/-- .. as the calls. -/
theorem ownsRow_calls {g cap : Nat} {l : List (Int × Int)} (h : w.ownsRow base 27 3 (.slice (some ⟨g, 0, none⟩) l.length cap) l.length (callVs l)) : CallsAt w g 0 l := by
  intro k hk
  have e := callVs_get l k hk
  have c0 := h.cellAt (k * 3) (by omega)
  have c1 := h.cellAt (k * 3 + 1) (by omega)
  have c2 := h.cellAt (k * 3 + 2) (by omega)
  rw [Nat.zero_add]
  exact ⟨c0.trans e.1, c1.trans e.2.1, c2.trans e.2.2⟩

/-- Bytes behind bytes. -/
theorem append_bytes {xs ls : List Int} (hown : w.ownsRow base 5 1 v xs.length (byteVs xs)) {A : Nat → Prop} {u : Value} (hu : BytesAt w A u ls) (hn : xs.length + ls.length ≤ 1000000) (hbase : base ≤ w.heap.size) :
    ∃ v' w', (Builtin.append_ #[22, 22] 22 #[v, u]).run Tryz.prog w = .ok v' w' ∧ w'.ownsRow base 5 1 v' (xs ++ ls).length (byteVs (xs ++ ls)) ∧ w.grownBy w' v.ownBlock ∧
      (v'.ownBlock = v.ownBlock ∨ ∃ k, w.heap.size ≤ k ∧ v'.ownBlock = some k) := by
  obtain ⟨i, hi, hz, hz1, hz2⟩ := info_parts info5
  rcases hu with ⟨rfl, rfl⟩ | ⟨b, o, cap, rfl, hc, hlt, hx⟩
  · refine ⟨v, w, run_append_owned_none (P := Tryz.prog) w base 22 22 5 i 1 Tryz.underlying22 hi v _ _ hown, by simpa using hown, grownBy_self w, .inl rfl⟩
  · obtain ⟨v', w', hr, ho, hg, hb⟩ := append_any (P := Tryz.prog) (t := 22) Tryz.underlying22 hi hz hz1 hz2 rfl (by decide) (by decide) hown ⟨b, o, none⟩ ls.length cap (byteVs ls) (by simp [byteVs])
      (fun j x hj => by
        simp only [byteVs, List.getElem?_map] at hj
        obtain ⟨y, hy, rfl⟩ := Option.map_eq_some_iff.1 hj
        have hjl := (List.getElem?_eq_some_iff.1 hy).1
        have := hx j hjl
        rw [show ls.getD j 0 = y by simp [List.getD, hy]] at this
        rw [addr_add, this]) (byteVs_one ls) hn hbase
    exact ⟨v', w', hr, by rw [List.length_append, byteVs_append]; exact ho, hg, hb⟩
/-- One byte. -/
theorem append_byte {xs : List Int} (hown : w.ownsRow base 5 1 v xs.length (byteVs xs)) (c : Int) (hn : xs.length + 1 ≤ 1000000) (hbase : base ≤ w.heap.size) :
    ∃ v' w', (Builtin.append_ #[22, 22] 22 #[v, .slice (some ⟨w.heap.size, 0, none⟩) 1 1]).run Tryz.prog (w.alloc (.cells #[.int .u8 c] 5)) = .ok v' w' ∧ w'.ownsRow base 5 1 v' (xs ++ [c]).length (byteVs (xs ++ [c])) ∧ w.grownBy w' v.ownBlock ∧
      (v'.ownBlock = v.ownBlock ∨ ∃ k, w.heap.size ≤ k ∧ v'.ownBlock = some k) := by
  have hsz : (w.alloc (.cells #[.int .u8 c] 5)).heap.size = w.heap.size + 1 := by simp
  obtain ⟨v', w', hr, ho, hg, hb⟩ := append_bytes (hown.alloc (.cells #[.int .u8 c] 5)) (A := fun _ => False) (u := .slice (some ⟨w.heap.size, 0, none⟩) 1 1) (ls := [c])
    (.inr ⟨w.heap.size, 0, 1, rfl, by simp, ⟨id, by simp⟩, fun i hi => by
      obtain rfl : i = 0 := by simpa using hi
      exact cell_of_heap (heap_alloc_new w _) 0 rfl⟩) hn (by omega)
  refine ⟨v', w', hr, ho, ?_, ?_⟩
  · have h0 := World.grownBy_alloc w (.cells #[.int .u8 c] 5) v.ownBlock
    exact ⟨hg.os.trans h0.os, hg.tape.trans h0.tape, hg.output.trans h0.output, Nat.le_trans h0.size hg.size, fun k hk hne => (hg.block k (by omega) hne).trans (h0.block k hk hne)⟩
  · rcases hb with h | ⟨k, hk, h⟩
    · exact .inl h
    · exact .inr ⟨k, by omega, h⟩
/-- Two calls behind calls. -/
theorem append_calls2 {xs : List (Int × Int)} (hown : w.ownsRow base 27 3 v xs.length (callVs xs)) (c d : Int × Int) (hn : xs.length + 2 ≤ 1000000) (hbase : base ≤ w.heap.size) :
    ∃ v' w', (Builtin.append_ #[28, 28] 28 #[v, .slice (some ⟨w.heap.size, 0, none⟩) 2 2]).run Tryz.prog (w.alloc (.cells #[.int .i64 c.1, .int .i64 c.2, .slice none 0 0, .int .i64 d.1, .int .i64 d.2, .slice none 0 0] 27)) = .ok v' w' ∧
      w'.ownsRow base 27 3 v' (xs ++ [c, d]).length (callVs (xs ++ [c, d])) ∧ w.grownBy w' v.ownBlock ∧ (v'.ownBlock = v.ownBlock ∨ ∃ k, w.heap.size ≤ k ∧ v'.ownBlock = some k) := by
  obtain ⟨i, hi, hz, hz1, hz2⟩ := info_parts info27
  have hsz : (w.alloc (.cells #[.int .i64 c.1, .int .i64 c.2, .slice none 0 0, .int .i64 d.1, .int .i64 d.2, .slice none 0 0] 27)).heap.size = w.heap.size + 1 := by simp
  obtain ⟨v', w', hr, ho, hg, hb⟩ := append_any (P := Tryz.prog) (t := 28) Tryz.underlying28 hi hz hz1 hz2 rfl (by decide) (by decide) (hown.alloc (.cells #[.int .i64 c.1, .int .i64 c.2, .slice none 0 0, .int .i64 d.1, .int .i64 d.2, .slice none 0 0] 27))
    ⟨w.heap.size, 0, none⟩ 2 2 (callVs [c, d]) rfl
    (fun j x hj => by
      rw [addr_add0]
      exact cell_of_heap (heap_alloc_new w _) j (by simpa [callVs] using hj)) (callVs_one _) hn (by omega)
  refine ⟨v', w', hr, by rw [List.length_append, callVs_append]; exact ho, ?_, ?_⟩
  · have h0 := World.grownBy_alloc w (.cells #[.int .i64 c.1, .int .i64 c.2, .slice none 0 0, .int .i64 d.1, .int .i64 d.2, .slice none 0 0] 27) v.ownBlock
    exact ⟨hg.os.trans h0.os, hg.tape.trans h0.tape, hg.output.trans h0.output, Nat.le_trans h0.size hg.size, fun k hk hne => (hg.block k (by omega) hne).trans (h0.block k hk hne)⟩
  · rcases hb with h | ⟨k, hk, h⟩
    · exact .inl h
    · exact .inr ⟨k, by omega, h⟩
end
end Go.Proofs.YtaecbclonmhbcaaGreatDoor
