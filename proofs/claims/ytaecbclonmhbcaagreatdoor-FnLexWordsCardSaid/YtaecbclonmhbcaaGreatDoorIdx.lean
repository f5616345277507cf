/- bytes.IndexByte and findStringLen. -/
import Derived.Test.YtaecbclonmhbcaaGreatDoorWord
import Derived.Lib.BytesEntry
namespace Go.Proofs.YtaecbclonmhbcaaGreatDoor
open Go.RowKit

/-! ### Plain -/
def idxI (c : Int) (xs : List Int) : Int := match idxOf c xs with | some i => (i : Int) | none => -1

def Bytes (xs : List Int) : Prop := ∀ i, 0 ≤ xs.getD i 0 ∧ xs.getD i 0 ≤ 255
theorem Bytes.drop {xs : List Int} (h : Bytes xs) (n : Nat) : Bytes (xs.drop n) := fun i => by rw [getD_drop]; exact h _
theorem Bytes.tail {x : Int} {xs : List Int} (h : Bytes (x :: xs)) : Bytes xs := fun i => by simpa using h (i + 1)

theorem beq_byte {x c : Int} (hx : 0 ≤ x ∧ x ≤ 255) (hc : 0 ≤ c ∧ c ≤ 255) : (UInt8.ofNat x.toNat == c.toNat.toUInt8) = (x == c) := by
  rw [Bool.eq_iff_iff]
  simp only [beq_iff_eq]
  constructor
  · intro h
    have := congrArg UInt8.toNat h
    simp at this
    omega
  · rintro rfl; rfl

theorem indexByte_idxI (c : Int) (hc : 0 ≤ c ∧ c ≤ 255) : ∀ xs : List Int, Bytes xs → Lib.indexByte (Lib.bytesOf xs) c.toNat.toUInt8 = idxI c xs
  | [], _ => rfl
  | x :: xs, h => by
    have ih := indexByte_idxI c hc xs h.tail
    have hx : 0 ≤ x ∧ x ≤ 255 := by simpa using h 0
    simp only [Lib.bytesOf, List.map_cons, Lib.indexByte, idxI, idxOf] at ih ⊢
    rw [beq_byte hx hc]
    by_cases he : x = c
    · simp [he]
    · simp only [beq_eq_false_iff_ne.2 he, Bool.false_eq_true, if_false]
      rw [ih]
      cases idxOf c xs with
      | none => rfl
      | some i => simp <;> omega

theorem idxOf_lt {c : Int} : ∀ {xs : List Int} {i : Nat}, idxOf c xs = some i → i < xs.length ∧ xs.getD i 0 = c
  | [], i, h => by simp [idxOf] at h
  | x :: xs, i, h => by
    simp only [idxOf] at h
    by_cases he : x = c
    · simp [he] at h; subst h; simp [he]
    · simp only [beq_eq_false_iff_ne.2 he, Bool.false_eq_true, if_false] at h
      cases hx : idxOf c xs with
      | none => rw [hx] at h; simp at h
      | some j =>
        rw [hx] at h; simp at h; subst h
        obtain ⟨h1, h2⟩ := idxOf_lt hx
        simp at h2 ⊢
        exact ⟨h1, h2⟩

/-- Backslashes at the end, counted from the end. -/
theorem slashes_snoc (xs : List Int) (c : Int) : slashes (xs ++ [c]) = if c == 92 then slashes xs + 1 else 0 := by
  induction xs with
  | nil => by_cases h : c = 92 <;> simp [slashes, h]
  | cons x xs ih =>
    simp only [List.cons_append, slashes, List.all_append, List.all_cons, List.all_nil, Bool.and_true, List.length_append, List.length_cons, List.length_nil]
    rw [ih]
    by_cases h : c = 92
    · simp only [h, beq_self_eq_true, Bool.and_true, if_true]
      split <;> simp
    · simp [h]
theorem slashes_le : ∀ xs : List Int, slashes xs ≤ xs.length
  | [] => Nat.le_refl _
  | x :: xs => by
    simp only [slashes]; split
    · simp
    · have := slashes_le xs; simp; omega
theorem take_snoc' (xs : List Int) (k : Nat) (h : k < xs.length) : xs.take (k + 1) = xs.take k ++ [xs.getD k 0] := by
  rw [List.take_succ_eq_append_getElem h]; simp [List.getD, List.getElem?_eq_getElem h]

/-- The count that findStringLen keeps: of the backslashes ahead of place i, n have been seen. -/
def Seen (xs : List Int) (i n : Nat) : Prop := n ≤ i ∧ slashes (xs.take i) = slashes (xs.take (i - n)) + n
theorem Seen.start (xs : List Int) (i : Nat) : Seen xs i 0 := ⟨Nat.zero_le _, rfl⟩
theorem Seen.next {xs : List Int} {i n : Nat} (h : Seen xs i n) (hi : i ≤ xs.length) (hn : n < i) (hc : xs.getD (i - n - 1) 0 = 92) : Seen xs i (n + 1) := by
  refine ⟨hn, ?_⟩
  rw [h.2]
  have e : i - n = (i - (n + 1)) + 1 := by omega
  rw [e, take_snoc' xs _ (by omega), show i - (n + 1) = i - n - 1 from by omega, slashes_snoc, hc]
  simp; omega
theorem Seen.stop {xs : List Int} {i n : Nat} (h : Seen xs i n) (hi : i ≤ xs.length) (hn : n < i) (hc : xs.getD (i - n - 1) 0 ≠ 92) : slashes (xs.take i) = n := by
  rw [h.2]
  have e : i - n = (i - n - 1) + 1 := by omega
  rw [e, take_snoc' xs _ (by omega), slashes_snoc, if_neg (by simpa using hc)]
  omega
theorem Seen.all {xs : List Int} {i : Nat} (h : Seen xs i i) : slashes (xs.take i) = i := by
  rw [h.2]; simp [slashes]

/-! ### IndexByte -/
set_option maxHeartbeats 1000000 in
set_option maxRecDepth 100000 in
theorem indexByte_at (b o n cap : Nat) (xs : List Int) (cv : Int) (w : World) (hx : xs.length = n) (hB : Bytes xs) (hcv : 0 ≤ cv ∧ cv ≤ 255)
    (hc : ∀ i, i < n → w.cell? ⟨b, o + i, none⟩ = some (.int .u8 (xs.getD i 0))) :
    Calls Tryz.prog 132 #[.slice (some ⟨b, o, none⟩) n cap, .int .u8 cv] w fun e w' => e = .returned (.int .i64 (idxI cv xs)) ∧ w = w' := by
  rw [← indexByte_idxI cv hcv xs hB]
  have hrun := Lib.run_indexByteSlice (P := Tryz.prog) w b o n cap xs hx hc cv
  have HH := Lib.hid hrun
  have HC := Lib.hid hc
  clear hc hrun
  go_enter Tryz.func132, Tryz.ntmps132
  go_wp2
  rw [run_callFunc_extern Tryz.func154 (by kernel_rfl) (by kernel_rfl) (by kernel_rfl) (e := Extern.BytealgIndexByte.indexByte) (by kernel_rfl), HH.out]
  simp only [Result.andThen]
  rw [Oper.upon_value]
  go_wp2
  go_ret
  exact ⟨rfl, rfl⟩

set_option maxHeartbeats 1000000 in
set_option maxRecDepth 100000 in
theorem indexByte_none (cv : Int) (w : World) :
    Calls Tryz.prog 132 #[.slice none 0 0, .int .u8 cv] w fun e w' => e = .returned (.int .i64 (-1)) ∧ w = w' := by
  go_enter Tryz.func132, Tryz.ntmps132
  go_wp2
  rw [run_callFunc_extern Tryz.func154 (by kernel_rfl) (by kernel_rfl) (by kernel_rfl) (e := Extern.BytealgIndexByte.indexByte) (by kernel_rfl), Lib.run_indexByteNil w 0 0 cv]
  simp only [Result.andThen]
  rw [Oper.upon_value]
  go_wp2
  go_ret
  exact ⟨rfl, rfl⟩
end Go.Proofs.YtaecbclonmhbcaaGreatDoor
