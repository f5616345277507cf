/- No call of reading brings the error that is added from without; kinds stay small. Plain. -/
import Derived.Test.YtaecbclonmhbcaaGreatDoorFetW
namespace Go.Proofs.YtaecbclonmhbcaaGreatDoor

structure Lx.Fine (x : Lx) : Prop where
  kind : x.kind ≤ 5
  err : x.err ≠ .other

section
variable {x : Lx}
theorem Lx.Fine.as {y : Lx} (h : x.Fine) (hk : y.kind ≤ 5) (he : y.err = x.err) : y.Fine := ⟨hk, by rw [he]; exact h.err⟩
theorem fail_fine (h : x.Fine) : x.fail.Fine := by unfold Lx.fail; split; exact ⟨h.kind, by simp⟩; exact h
theorem sepFail_fine (h : x.Fine) : x.sepFail.Fine := by unfold Lx.sepFail; split; exact fail_fine h; exact h
theorem word_fine (h : x.Fine) (ws : List Int) : (x.word ws).Fine := by unfold Lx.word; split; exact h.as h.kind rfl; exact fail_fine h
theorem fetchNumber_fine (h : x.Fine) : x.fetchNumber.Fine := by
  unfold Lx.fetchNumber
  split
  · exact h.as h.kind rfl
  · split
    · exact h.as h.kind rfl
    · exact fail_fine (h.as h.kind rfl)
theorem fetchString_fine (h : x.Fine) : x.fetchString.Fine := by
  unfold Lx.fetchString
  split
  · exact h.as h.kind rfl
  · exact fail_fine (h.as h.kind rfl)
theorem scan_fine : ∀ (cs : List Int) (x : Lx), x.Fine → (Lx.scan x cs).Fine
  | [], x, h => ⟨h.kind, by simp [Lx.scan]⟩
  | c :: cs, x, h => by
    unfold Lx.scan
    split
    · split
      · exact scan_fine cs _ (h.as h.kind rfl)
      · exact scan_fine cs _ (fail_fine h)
    split
    · exact scan_fine cs _ (h.as h.kind rfl)
    split
    · exact fetchString_fine ((sepFail_fine h).as (by show (2 : Nat) ≤ 5; decide) rfl)
    split
    · exact (sepFail_fine h).as (by show (1 : Nat) ≤ 5; decide) rfl
    split
    · split
      · exact (fail_fine h).as (by show (1 : Nat) ≤ 5; decide) rfl
      · exact h.as (by show (1 : Nat) ≤ 5; decide) rfl
    split
    · exact fetchNumber_fine ((sepFail_fine h).as (by show (3 : Nat) ≤ 5; decide) rfl)
    split
    · exact word_fine (x := { x.sepFail with kind := 5 }) ((sepFail_fine h).as (by show (5 : Nat) ≤ 5; decide) rfl) _
    split
    · exact word_fine (x := { x.sepFail with kind := 4, bv := true }) ((sepFail_fine h).as (by show (4 : Nat) ≤ 5; decide) rfl) _
    split
    · exact word_fine (x := { x.sepFail with kind := 4, bv := false }) ((sepFail_fine h).as (by show (4 : Nat) ≤ 5; decide) rfl) _
    · exact fail_fine h
theorem fetch_fine (h : x.Fine) : x.fetch.Fine := scan_fine _ _ (h.as (by show (0 : Nat) ≤ 5; decide) rfl)
theorem peek_fine (h : x.Fine) : x.peek.Fine := by unfold Lx.peek; split; exact fetch_fine h; exact h
theorem consume_fine (h : x.Fine) : x.consume.Fine := h.as (by show (0 : Nat) ≤ 5; decide) rfl
end
end Go.Proofs.YtaecbclonmhbcaaGreatDoor
