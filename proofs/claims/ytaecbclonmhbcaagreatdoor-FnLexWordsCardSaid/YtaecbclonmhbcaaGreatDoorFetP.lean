/- What FetchToken's loop does at each byte. Plain. -/
import Derived.Test.YtaecbclonmhbcaaGreatDoorWord
namespace Go.Proofs.YtaecbclonmhbcaaGreatDoor

section
variable {x : Lx} {c : Int} {cs : List Int}
theorem fail_d : x.fail.d = x.d := by unfold Lx.fail; split <;> rfl
theorem fail_pos : x.fail.pos = x.pos := by unfold Lx.fail; split <;> rfl
theorem fail_start : x.fail.start = x.start := by unfold Lx.fail; split <;> rfl
theorem fail_sep : x.fail.sep = x.sep := by unfold Lx.fail; split <;> rfl
theorem fail_multi : x.fail.multi = x.multi := by unfold Lx.fail; split <;> rfl
theorem Lx.Wf.as {x y : Lx} (h : x.Wf) (hd : y.d = x.d) (hp : y.pos = x.pos) (hs : y.start = x.start) : y.Wf :=
  ⟨by rw [hd]; exact h.len, by rw [hd, hp]; exact h.pos, by rw [hp, hs]; exact h.start, by rw [hd]; exact h.byte⟩
theorem Lx.Wf.fail {x : Lx} (h : x.Wf) : x.fail.Wf := h.as fail_d fail_pos fail_start
theorem sepFail_zero (h : x.sep = 0) : x.sepFail = x := by unfold Lx.sepFail; simp [h]
theorem sepFail_ne (h : x.sep ≠ 0) : x.sepFail = x.fail := by unfold Lx.sepFail; simp [h]

theorem scan_sep (hc : c = 58 ∨ c = 44) : Lx.scan x (c :: cs) = if x.sep == c then Lx.scan { x with pos := x.pos + 1, start := x.start + 1, sep := 0 } cs else Lx.scan x.fail cs := by
  rcases hc with rfl | rfl <;> rfl
theorem scan_blank (hc : c = 32 ∨ c = 9 ∨ c = 13 ∨ c = 10) : Lx.scan x (c :: cs) = Lx.scan { x with pos := x.pos + 1, start := x.start + 1 } cs := by
  rcases hc with rfl | rfl | rfl | rfl <;> rfl
theorem scan_str : Lx.scan x (34 :: cs) = Lx.fetchString { x.sepFail with kind := 2 } := rfl
theorem scan_open (hc : c = 123 ∨ c = 91) : Lx.scan x (c :: cs) = { x.sepFail with fst := true, kind := 1, delim := x.d.getD x.pos 0, pos := x.pos + 1 } := by
  rcases hc with rfl | rfl <;> rfl
theorem scan_close (hc : c = 125 ∨ c = 93) : Lx.scan x (c :: cs) = { (if !x.fst && x.sep != 44 then x.fail else x) with sep := 0, kind := 1, delim := x.d.getD x.pos 0, pos := x.pos + 1 } := by
  rcases hc with rfl | rfl <;> rfl
theorem scan_num (hc : c = 45 ∨ c = 48 ∨ c = 49 ∨ c = 50 ∨ c = 51 ∨ c = 52 ∨ c = 53 ∨ c = 54 ∨ c = 55 ∨ c = 56 ∨ c = 57) : Lx.scan x (c :: cs) = Lx.fetchNumber { x.sepFail with kind := 3 } := by
  rcases hc with rfl | rfl | rfl | rfl | rfl | rfl | rfl | rfl | rfl | rfl | rfl <;> rfl
theorem scan_n : Lx.scan x (110 :: cs) = Lx.word { x.sepFail with kind := 5 } [117, 108, 108] := rfl
theorem scan_t : Lx.scan x (116 :: cs) = Lx.word { x.sepFail with kind := 4, bv := true } [114, 117, 101] := rfl
theorem scan_f : Lx.scan x (102 :: cs) = Lx.word { x.sepFail with kind := 4, bv := false } [97, 108, 115, 101] := rfl
theorem scan_else (h58 : c ≠ 58) (h44 : c ≠ 44) (hb : isBl c = false) (h34 : c ≠ 34) (h123 : c ≠ 123) (h91 : c ≠ 91) (h125 : c ≠ 125) (h93 : c ≠ 93) (hd : isDig c = false) (h45 : c ≠ 45)
    (hn : c ≠ 110) (ht : c ≠ 116) (hf : c ≠ 102) : Lx.scan x (c :: cs) = x.fail := by
  simp only [Lx.scan, beq_eq_false_iff_ne.2 h58, beq_eq_false_iff_ne.2 h44, hb, beq_eq_false_iff_ne.2 h34, beq_eq_false_iff_ne.2 h123, beq_eq_false_iff_ne.2 h91, beq_eq_false_iff_ne.2 h125, beq_eq_false_iff_ne.2 h93, hd,
    beq_eq_false_iff_ne.2 h45, beq_eq_false_iff_ne.2 hn, beq_eq_false_iff_ne.2 ht, beq_eq_false_iff_ne.2 hf, Bool.or_self, Bool.false_eq_true, if_false]
end
end Go.Proofs.YtaecbclonmhbcaaGreatDoor
