/- isTokenEnd, and the words null, true, false. -/
import Derived.Test.YtaecbclonmhbcaaGreatDoorErr
namespace Go.Proofs.YtaecbclonmhbcaaGreatDoor
open Go.RowKit

/-! ### Plain -/
theorem getD_drop (l : List Int) (p i : Nat) : (l.drop p).getD i 0 = l.getD (p + i) 0 := by simp [List.getD]

theorem drop_cons_getD (l : List Int) (p : Nat) (h : p < l.length) : l.drop p = l.getD p 0 :: l.drop (p + 1) := by
  rw [List.drop_eq_getElem_cons h]; simp [List.getD, List.getElem?_eq_getElem h]

theorem wordAt3_short (d : List Int) (p : Nat) (a b c : Int) (h : d.length < p + 4) : wordAt d p [a, b, c] = false := by
  have : ((d.drop (p + 1)).take 3).length < 3 := by simp; omega
  simp only [wordAt, List.length_cons, List.length_nil, Nat.zero_add, Nat.reduceAdd, Bool.and_eq_false_imp, beq_iff_eq]
  intro he; rw [he] at this; simp at this
theorem wordAt3 (d : List Int) (p : Nat) (a b c : Int) (h : p + 4 ≤ d.length) :
    wordAt d p [a, b, c] = (d.getD (p + 1) 0 == a && (d.getD (p + 2) 0 == b && (d.getD (p + 3) 0 == c && (decide (p + 4 = d.length) || isEndB (d.getD (p + 4) 0))))) := by
  have h1 : d.drop (p + 1) = d.getD (p + 1) 0 :: d.getD (p + 2) 0 :: d.getD (p + 3) 0 :: d.drop (p + 4) := by
    rw [drop_cons_getD d (p + 1) (by omega), drop_cons_getD d (p + 2) (by omega), drop_cons_getD d (p + 3) (by omega)]
  have h2 : headEnd (d.drop (p + 4)) = (decide (p + 4 = d.length) || isEndB (d.getD (p + 4) 0)) := by
    by_cases he : p + 4 = d.length
    · rw [List.drop_eq_nil_of_le (by omega)]; simp [he, headEnd]
    · rw [drop_cons_getD d (p + 4) (by omega)]; simp [he, headEnd]
  simp only [wordAt, h1, List.length_cons, List.length_nil, Nat.zero_add, Nat.reduceAdd, List.take_succ_cons, List.take_zero]
  rw [show p + 1 + 3 = p + 4 from by omega, h2]
  simp [Bool.and_assoc]

theorem wordAt4_short (d : List Int) (p : Nat) (a b c e : Int) (h : d.length < p + 5) : wordAt d p [a, b, c, e] = false := by
  have : ((d.drop (p + 1)).take 4).length < 4 := by simp; omega
  simp only [wordAt, List.length_cons, List.length_nil, Nat.zero_add, Nat.reduceAdd, Bool.and_eq_false_imp, beq_iff_eq]
  intro he; rw [he] at this; simp at this
theorem wordAt4 (d : List Int) (p : Nat) (a b c e : Int) (h : p + 5 ≤ d.length) :
    wordAt d p [a, b, c, e] = (d.getD (p + 1) 0 == a && (d.getD (p + 2) 0 == b && (d.getD (p + 3) 0 == c && (d.getD (p + 4) 0 == e && (decide (p + 5 = d.length) || isEndB (d.getD (p + 5) 0)))))) := by
  have h1 : d.drop (p + 1) = d.getD (p + 1) 0 :: d.getD (p + 2) 0 :: d.getD (p + 3) 0 :: d.getD (p + 4) 0 :: d.drop (p + 5) := by
    rw [drop_cons_getD d (p + 1) (by omega), drop_cons_getD d (p + 2) (by omega), drop_cons_getD d (p + 3) (by omega), drop_cons_getD d (p + 4) (by omega)]
  have h2 : headEnd (d.drop (p + 5)) = (decide (p + 5 = d.length) || isEndB (d.getD (p + 5) 0)) := by
    by_cases he : p + 5 = d.length
    · rw [List.drop_eq_nil_of_le (by omega)]; simp [he, headEnd]
    · rw [drop_cons_getD d (p + 5) (by omega)]; simp [he, headEnd]
  simp only [wordAt, h1, List.length_cons, List.length_nil, Nat.zero_add, Nat.reduceAdd, List.take_succ_cons, List.take_zero]
  rw [show p + 1 + 4 = p + 5 from by omega, h2]
  simp [Bool.and_assoc]

/-! ### isTokenEnd -/
set_option maxHeartbeats 1000000 in
theorem isEnd_any (c : Int) (w : World) : Calls Tryz.prog 145 #[.int .u8 c] w fun e w' => e = .returned (.bool (isEndB c)) ∧ w = w' := by
  by_cases h0 : c = 32
  · subst h0; go_enter Tryz.func145, Tryz.ntmps145; go_wp2; go_ret; exact ⟨rfl, rfl⟩
  by_cases h1 : c = 9
  · subst h1; go_enter Tryz.func145, Tryz.ntmps145; go_wp2; go_ret; exact ⟨rfl, rfl⟩
  by_cases h2 : c = 13
  · subst h2; go_enter Tryz.func145, Tryz.ntmps145; go_wp2; go_ret; exact ⟨rfl, rfl⟩
  by_cases h3 : c = 10
  · subst h3; go_enter Tryz.func145, Tryz.ntmps145; go_wp2; go_ret; exact ⟨rfl, rfl⟩
  by_cases h4 : c = 91
  · subst h4; go_enter Tryz.func145, Tryz.ntmps145; go_wp2; go_ret; exact ⟨rfl, rfl⟩
  by_cases h5 : c = 93
  · subst h5; go_enter Tryz.func145, Tryz.ntmps145; go_wp2; go_ret; exact ⟨rfl, rfl⟩
  by_cases h6 : c = 123
  · subst h6; go_enter Tryz.func145, Tryz.ntmps145; go_wp2; go_ret; exact ⟨rfl, rfl⟩
  by_cases h7 : c = 125
  · subst h7; go_enter Tryz.func145, Tryz.ntmps145; go_wp2; go_ret; exact ⟨rfl, rfl⟩
  by_cases h8 : c = 44
  · subst h8; go_enter Tryz.func145, Tryz.ntmps145; go_wp2; go_ret; exact ⟨rfl, rfl⟩
  by_cases h9 : c = 58
  · subst h9; go_enter Tryz.func145, Tryz.ntmps145; go_wp2; go_ret; exact ⟨rfl, rfl⟩
  go_enter Tryz.func145, Tryz.ntmps145
  go_wp2
  go_ret
  exact ⟨rfl, rfl⟩

theorem isEnd_quiet (c : Int) (w : World) (n : Nat) : Calls Tryz.prog 145 #[.int .u8 c] (w.drewN n) fun e w' => e = .returned (.bool (isEndB c)) ∧ ∃ m, w' = w.drewN m :=
  (isEnd_any c (w.drewN n)).mono fun _ _ ⟨he, hw⟩ => ⟨he, n, hw.symm⟩

/-! ### The errors at whatever state -/
section
variable {w : World} {b : Nat} {ae : Sur} {ao : Addr} {x : Lx} {vd vt ve vm : Value}

/-- What every method asks of the state, and keeps. -/
structure Lx.Wf (x : Lx) : Prop where
  len : x.d.length ≤ 1073741824
  pos : x.pos ≤ x.d.length
  start : x.start ≤ x.pos
  byte : ∀ i, 0 ≤ x.d.getD i 0 ∧ x.d.getD i 0 ≤ 255

theorem errParse_any (h : LexAt w b ae ao x vd vt ve vm) (hw : x.Wf) (s : ByteArray) :
    Calls Tryz.prog 117 #[.pointer (some ⟨b, 0, none⟩), .string s] w fun e w' => e = .returned (.tuple #[]) ∧ Failed w b ae ao x.fail vd vt vm w' := by
  unfold Lx.fail
  cases hx : x.ok with
  | false =>
    refine (errParse_held h hx s).mono ?_
    rintro e w' ⟨he, rfl⟩
    exact ⟨he, _, h, Kept.refl b w⟩
  | true =>
    by_cases hs : x.d.length - x.pos ≤ 13
    · exact errParse_short h hx s hw.len hw.pos hs
    · exact errParse_long h hx s hw.len (by omega)

set_option maxHeartbeats 400000 in
theorem errSyntax_any (h : LexAt w b ae ao x vd vt ve vm) (hw : x.Wf) :
    Calls Tryz.prog 118 #[.pointer (some ⟨b, 0, none⟩)] w fun e w' => e = .returned (.tuple #[]) ∧ Failed w b ae ao x.fail vd vt vm w' := by
  have C := errParse_any h hw
  go_enter Tryz.func118, Tryz.ntmps118
  go_wp2_with (go_at_call 117; refine (C _).mono ?_; rintro e w' ⟨rfl, hf⟩)
  go_end0
  exact ⟨rfl, hf⟩
end
end Go.Proofs.YtaecbclonmhbcaaGreatDoor
