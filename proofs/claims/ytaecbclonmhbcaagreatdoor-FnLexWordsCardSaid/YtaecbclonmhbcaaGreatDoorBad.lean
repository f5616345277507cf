/- errInvalidToken of a lexer with one error. -/
import Derived.Test.YtaecbclonmhbcaaGreatDoorFetP
namespace Go.Proofs.YtaecbclonmhbcaaGreatDoor
open Go.RowKit

section
variable {w : World} {b : Nat} {ae : Sur} {ao : Addr} {x : Lx} {vd vt ve vm : Value}

theorem LexAt.errNil (h : LexAt w b ae ao x vd vt ve vm) (hx : x.ok = true) : ve = .nilIface := by
  have he := h.err
  have hx' : x.err.isNil = true := hx
  cases hxe : x.err <;> rw [hxe] at he hx' <;> simp only [ErrAt, Er.isNil, Bool.false_eq_true] at he hx'
  exact he

theorem LexAt.errSome (h : LexAt w b ae ao x vd vt ve vm) (hx : x.ok = false) : ∃ t v, ve = .iface t v := by
  have he := h.err
  have hx' : x.err.isNil = false := hx
  cases hxe : x.err <;> rw [hxe] at he hx' <;> simp only [ErrAt, Er.isNil, Bool.true_eq_false] at he hx'
  · exact ⟨_, _, he⟩
  · exact ⟨_, _, he⟩
  · obtain ⟨k, s, t, rfl, -, -⟩ := he; exact ⟨_, _, rfl⟩

/-- A new error, as the walk lays it where no draw stands between. -/
theorem LexAt.newErr' (h : LexAt w b ae ao x vd vt ve vm) (s t : ByteArray) (n : Nat) :
    LexAt ((w.setCell ⟨b, 11, none⟩ (.iface 60 (.pointer (some ⟨w.heap.size, 0, none⟩)))).alloc (.cells #[.string s, .int .i64 n, .string t] 66)) b ae ao { x with err := .lex n } vd vt (.iface 60 (.pointer (some ⟨w.heap.size, 0, none⟩))) vm := by
  have hb := h.lt
  have hk := ((Kept.refl b w).setCell 11 (.iface 60 (.pointer (some ⟨w.heap.size, 0, none⟩)))).alloc (.cells #[.string s, .int .i64 n, .string t] 66)
  refine h.into hk rfl ?_ (h.tok.kept hk) ⟨w.heap.size, s, t, rfl, h.fresh, ?_⟩
  · rw [heap_alloc_lt (by simpa using hb), heap_setCell h.heap 11 _]; rfl
  · have := heap_alloc_new (w.setCell ⟨b, 11, none⟩ (.iface 60 (.pointer (some ⟨w.heap.size, 0, none⟩)))) (.cells #[.string s, .int .i64 n, .string t] 66)
    rw [← this]; simp

set_option maxHeartbeats 400000 in
theorem errInvalid_held (h : LexAt w b ae ao x vd vt ve vm) (hx : x.ok = false) (s : ByteArray) :
    Calls Tryz.prog 103 #[.pointer (some ⟨b, 0, none⟩), .string s] w fun e w' => e = .returned (.tuple #[]) ∧ w = w' := by
  obtain ⟨t, v, rfl⟩ := h.errSome hx
  have c11 := h.c11
  clear h
  go_enter Tryz.func103, Tryz.ntmps103
  go_wp2
  (try simp only [Exit.inBlock, Exit.then])
  refine bodyPost_ret (results_none rfl _ _ _) rfl ?_
  exact ⟨rfl, rfl⟩

set_option maxHeartbeats 1000000 in
theorem errInvalid_short (p : Option Addr) (cap : Nat) (h : LexAt w b ae ao x vd (.slice p x.tok.length cap) ve vm) (hx : x.ok = true) (hm : x.multi = false) (s : ByteArray) (hs : s.size ≤ 1000) (hl : x.tok.length ≤ 13) :
    Calls Tryz.prog 103 #[.pointer (some ⟨b, 0, none⟩), .string s] w fun e w' => e = .returned (.tuple #[]) ∧ Failed w b ae ao { x with err := .lex x.pos } vd (.slice p x.tok.length cap) vm w' := by
  have c11 := h.c11
  have c2 := h.c2
  have c6 := h.c6
  have c10 := h.c10
  rw [hm] at c10
  have f11 := h.free 11
  have hlt := h.lt
  rw [h.errNil hx] at c11
  have hd : decide ((x.tok.length : Int) ≤ 13) = true := decide_eq_true (by omega)
  have hcv0 := run_bytes_str h.tok
  have hcv := hcv0 0
  have h0 : w.drewN 0 = w := rfl
  rw [h0] at hcv
  have H := Lib.hid h
  clear h hx hm hcv0 h0
  go_enter Tryz.func103, Tryz.ntmps103
  go_wp2
  all_goals go_end0
  all_goals exact ⟨rfl, _, H.out.newErr' _ _ _, ((Kept.refl b w).setCell 11 _).alloc _⟩

set_option maxHeartbeats 1000000 in
theorem errInvalid_long (bt o cap : Nat) (h : LexAt w b ae ao x vd (.slice (some ⟨bt, o, none⟩) x.tok.length cap) ve vm) (hx : x.ok = true) (hm : x.multi = false) (s : ByteArray) (hs : s.size ≤ 1000) (hl : 13 < x.tok.length) (hcap : x.tok.length ≤ cap)
    (hcell : ∀ i, i < x.tok.length → w.cell? ⟨bt, o + i, none⟩ = some (.int .u8 (x.tok.getD i 0))) :
    Calls Tryz.prog 103 #[.pointer (some ⟨b, 0, none⟩), .string s] w fun e w' => e = .returned (.tuple #[]) ∧ Failed w b ae ao { x with err := .lex x.pos } vd (.slice (some ⟨bt, o, none⟩) x.tok.length cap) vm w' := by
  have c11 := h.c11
  have c2 := h.c2
  have c6 := h.c6
  have c10 := h.c10
  rw [hm] at c10
  have f11 := h.free 11
  have hlt := h.lt
  rw [h.errNil hx] at c11
  have hd : decide ((x.tok.length : Int) ≤ 13) = false := decide_eq_false (by omega)
  obtain ⟨sv, hcv, hsz⟩ : ∃ sv : ByteArray, (∀ (cp : Nat) (dst : TypeId), Tryz.prog.underlying dst = some .string → (convert 22 dst (.slice (some ⟨bt, o, none⟩) 10 cp)).run Tryz.prog w = .ok (.string sv) w) ∧ sv.size ≤ 10 :=
    ⟨strOfNums (x.tok.take 10), fun cp =>
    run_convert_bytes_arg w 22 5 Tryz.underlying22 Tryz.underlying5 bt o 10 cp (x.tok.take 10) (by simp; omega) (fun i hi => by
      rw [hcell i (by omega)]
      simp [List.getD, hi]), by rw [strOfNums_size]; simp; omega⟩
  have hc10 : (10 : Int) ≤ (cap : Int) := by omega
  have H := Lib.hid h
  clear h hx hm hcell
  go_enter Tryz.func103, Tryz.ntmps103
  go_wp2
  all_goals go_end0
  all_goals exact ⟨rfl, _, H.out.newErr' _ _ _, ((Kept.refl b w).setCell 11 _).alloc _⟩

theorem errInvalid_any (h : LexAt w b ae ao x vd vt ve vm) (hm : x.multi = false) (s : ByteArray) (hs : s.size ≤ 1000) :
    Calls Tryz.prog 103 #[.pointer (some ⟨b, 0, none⟩), .string s] w fun e w' => e = .returned (.tuple #[]) ∧ Failed w b ae ao x.fail vd vt vm w' := by
  unfold Lx.fail
  cases hx : x.ok with
  | false =>
    refine (errInvalid_held h hx s).mono ?_
    rintro e w' ⟨he, rfl⟩
    exact ⟨he, _, h, Kept.refl b w⟩
  | true =>
    rcases h.tok with ⟨h0, rfl⟩ | ⟨bt, o, cap, rfl, hc, hn, hx'⟩
    · have h1 : x.tok.length = 0 := by rw [h0]; rfl
      have := errInvalid_short none 0 (x := x) (vd := vd) (ve := ve) (vm := vm) (by rw [h1]; exact h) hx hm s hs (by omega)
      rw [h1] at this
      exact this
    · by_cases hl : x.tok.length ≤ 13
      · exact errInvalid_short _ _ h hx hm s hs hl
      · exact errInvalid_long bt o cap h hx hm s hs (by omega) hc hx'
end
end Go.Proofs.YtaecbclonmhbcaaGreatDoor
