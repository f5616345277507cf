/- The methods over tokens, of a lexer in whatever mode. Printed by gen_mop.py. -/
import Derived.Test.YtaecbclonmhbcaaGreatDoorP41
set_option linter.unusedVariables false
set_option linter.unusedSimpArgs false
namespace Go.Proofs.YtaecbclonmhbcaaGreatDoor
open Go.RowKit
section
variable {F : Fix} {w0 w : World} {vm0 vt ve vm : Value} {p n : Nat} {x : Lx}
set_option maxHeartbeats 4000000 in
set_option maxRecDepth 100000 in
theorem isDelimM (h : MSt F w0 vm0 p n w x vt ve vm) (c : Int) :
    Calls Tryz.prog 54 #[.pointer (some ⟨F.b, 0, none⟩), .int .u8 c] w (MEnd F w0 vm0 p n fun r x' w' vm' => ∃ t, r = .bool t) := by
  have H := Lib.hid h
  by_cases hk : x.kind = 0
  case neg =>
    have n1 : ((x.kind : Int) == 0) = false := beq_eq_false_iff_ne.2 (by omega)
    have c3 := h.mx.lx.c3
    have c7 := h.mx.lx.c7
    have HF : RowKit.Hid (F.g → x.multi = true → x.ok = true → Fresh x) := h.freshOld (.inl hk)
    clear h
    cases hok2 : x.ok with
    | false =>
      go_enter Tryz.func54, Tryz.ntmps54
      go_wp2_with (first | (go_at_call 47; refine (okM H.out).mono ?_; rintro e w' ⟨rfl, rfl⟩))
      go_ret
      exact ⟨_, _, _, _, _, rfl, ⟨_, rfl⟩, H.out⟩
    | true =>
      go_enter Tryz.func54, Tryz.ntmps54
      go_wp2_with (first | (go_at_call 47; refine (okM H.out).mono ?_; rintro e w' ⟨rfl, rfl⟩))
      go_ret
      exact ⟨_, _, _, _, _, rfl, ⟨_, rfl⟩, H.out⟩
  case pos =>
    have c3 := h.mx.lx.c3
    rw [hk] at c3
    have c7 := h.mx.lx.c7
    cases hok : x.ok with
    | false =>
      have HF : RowKit.Hid (F.g → x.multi = true → x.ok = true → Fresh x) := h.freshOld (.inr hok)
      clear h
      go_enter Tryz.func54, Tryz.ntmps54
      go_wp2_with (first | (go_at_call 47; refine (okM H.out).mono ?_; rintro e w' ⟨rfl, rfl⟩))
      go_ret
      exact ⟨_, _, _, _, _, rfl, ⟨_, rfl⟩, H.out⟩
    | true =>
      have HF : RowKit.Hid (F.g → x.fetch.multi = true → x.fetch.ok = true → Fresh x.fetch) := h.freshNew
      clear h hk c7
      cases hok2 : x.fetch.ok with
      | false =>
        go_enter Tryz.func54, Tryz.ntmps54
        go_wp2_with (first | (go_at_call 47; with_reducible refine (okM G1.out).mono ?_; rintro e w2 ⟨rfl, rfl⟩) | (go_at_call 47; refine (okM H.out).mono ?_; rintro e w' ⟨rfl, rfl⟩) | (go_at_call 86; refine (fetchM H.out).mono ?_; rintro e w1 ⟨r1, x1, vt1, ve1, vm1, rfl, ⟨rfl, rfl, rfl⟩, g1⟩; have z3 := g1.mx.lx.c3; have z7 := g1.mx.lx.c7; have G1 := Lib.hid g1; clear g1))
        go_ret
        exact ⟨_, _, _, _, _, rfl, ⟨_, rfl⟩, G1.out⟩
      | true =>
        go_enter Tryz.func54, Tryz.ntmps54
        go_wp2_with (first | (go_at_call 47; with_reducible refine (okM G1.out).mono ?_; rintro e w2 ⟨rfl, rfl⟩) | (go_at_call 47; refine (okM H.out).mono ?_; rintro e w' ⟨rfl, rfl⟩) | (go_at_call 86; refine (fetchM H.out).mono ?_; rintro e w1 ⟨r1, x1, vt1, ve1, vm1, rfl, ⟨rfl, rfl, rfl⟩, g1⟩; have z3 := g1.mx.lx.c3; have z7 := g1.mx.lx.c7; have G1 := Lib.hid g1; clear g1))
        go_ret
        exact ⟨_, _, _, _, _, rfl, ⟨_, rfl⟩, G1.out⟩
set_option maxHeartbeats 4000000 in
set_option maxRecDepth 100000 in
theorem delimM (h : MSt F w0 vm0 p n w x vt ve vm) (hn : n ≤ 1000000) (c : Int) :
    Calls Tryz.prog 87 #[.pointer (some ⟨F.b, 0, none⟩), .int .u8 c] w (MEnd F w0 vm0 p (n + 1) fun r x' w' vm' => r = .tuple #[]) := by
  have hcv1 := one_byte_str (c := c)
  have HSZ : RowKit.Hid ((strOfNums [c]).size ≤ 1000) := by show _ ≤ _; rw [strOfNums_size]; simp
  have H := Lib.hid h
  by_cases hk : x.kind = 0
  case neg =>
    have n1 : ((x.kind : Int) == 0) = false := beq_eq_false_iff_ne.2 (by omega)
    have c3 := h.mx.lx.c3
    have c7 := h.mx.lx.c7
    have HF : RowKit.Hid (F.g → x.multi = true → x.ok = true → Fresh x) := h.freshOld (.inl hk)
    clear h
    cases hok2 : x.ok with
    | false =>
      go_enter Tryz.func87, Tryz.ntmps87
      go_wp2_with (first | (go_at_call 47; refine (okM H.out).mono ?_; rintro e w' ⟨rfl, rfl⟩) | (go_at_call 104; refine (consumeM H.out).mono ?_; rintro e w3 ⟨rfl, g3⟩; have c3lt := g3.mx.lx.lt; have H3 := Lib.hid g3; clear g3) | (go_at_call 103; refine (errM (H3.out.alloc _) hn HF.out _ HSZ.out).mono ?_; rintro e w4 ⟨r4, x4, vt4, ve4, vm4, rfl, ⟨rfl, hb4⟩, g4⟩; have H4 := Lib.hid g4; clear hb4 g4))
      go_end0
      exact ⟨_, _, _, _, _, rfl, rfl, H4.out⟩
    | true =>
      by_cases hd : x.delim = c
      · have d1 : (x.delim == c) = true := by simp [hd]
        have d2 : (x.delim != c) = false := by simp [hd]
        clear hd
        go_enter Tryz.func87, Tryz.ntmps87
        go_wp2_with (first | (go_at_call 47; refine (okM H.out).mono ?_; rintro e w' ⟨rfl, rfl⟩) | (go_at_call 104; refine (consumeM H.out).mono ?_; rintro e w3 ⟨rfl, g3⟩; have c3lt := g3.mx.lx.lt; have H3 := Lib.hid g3; clear g3))
        go_end0
        exact ⟨_, _, _, _, _, rfl, rfl, H3.out.le (Nat.le_succ n)⟩
      · have d1 : (x.delim == c) = false := by simp [hd]
        have d2 : (x.delim != c) = true := by simp [hd]
        clear hd
        go_enter Tryz.func87, Tryz.ntmps87
        go_wp2_with (first | (go_at_call 47; refine (okM H.out).mono ?_; rintro e w' ⟨rfl, rfl⟩) | (go_at_call 104; refine (consumeM H.out).mono ?_; rintro e w3 ⟨rfl, g3⟩; have c3lt := g3.mx.lx.lt; have H3 := Lib.hid g3; clear g3) | (go_at_call 103; refine (errM (H3.out.alloc _) hn HF.out _ HSZ.out).mono ?_; rintro e w4 ⟨r4, x4, vt4, ve4, vm4, rfl, ⟨rfl, hb4⟩, g4⟩; have H4 := Lib.hid g4; clear hb4 g4))
        go_end0
        exact ⟨_, _, _, _, _, rfl, rfl, H4.out⟩
  case pos =>
    have c3 := h.mx.lx.c3
    rw [hk] at c3
    have c7 := h.mx.lx.c7
    cases hok : x.ok with
    | false =>
      have HF : RowKit.Hid (F.g → x.multi = true → x.ok = true → Fresh x) := h.freshOld (.inr hok)
      clear h
      go_enter Tryz.func87, Tryz.ntmps87
      go_wp2_with (first | (go_at_call 47; refine (okM H.out).mono ?_; rintro e w' ⟨rfl, rfl⟩) | (go_at_call 104; refine (consumeM H.out).mono ?_; rintro e w3 ⟨rfl, g3⟩; have c3lt := g3.mx.lx.lt; have H3 := Lib.hid g3; clear g3) | (go_at_call 103; refine (errM (H3.out.alloc _) hn HF.out _ HSZ.out).mono ?_; rintro e w4 ⟨r4, x4, vt4, ve4, vm4, rfl, ⟨rfl, hb4⟩, g4⟩; have H4 := Lib.hid g4; clear hb4 g4))
      go_end0
      exact ⟨_, _, _, _, _, rfl, rfl, H4.out⟩
    | true =>
      have HF : RowKit.Hid (F.g → x.fetch.multi = true → x.fetch.ok = true → Fresh x.fetch) := h.freshNew
      clear h hk c7
      cases hok2 : x.fetch.ok with
      | false =>
        go_enter Tryz.func87, Tryz.ntmps87
        go_wp2_with (first | (go_at_call 47; with_reducible refine (okM G1.out).mono ?_; rintro e w2 ⟨rfl, rfl⟩) | (go_at_call 47; refine (okM H.out).mono ?_; rintro e w' ⟨rfl, rfl⟩) | (go_at_call 86; refine (fetchM H.out).mono ?_; rintro e w1 ⟨r1, x1, vt1, ve1, vm1, rfl, ⟨rfl, rfl, rfl⟩, g1⟩; have z3 := g1.mx.lx.c3; have z7 := g1.mx.lx.c7; have G1 := Lib.hid g1; clear g1) | (go_at_call 104; refine (consumeM G1.out).mono ?_; rintro e w3 ⟨rfl, g3⟩; have c3lt := g3.mx.lx.lt; have H3 := Lib.hid g3; clear g3) | (go_at_call 103; refine (errM (H3.out.alloc _) hn HF.out _ HSZ.out).mono ?_; rintro e w4 ⟨r4, x4, vt4, ve4, vm4, rfl, ⟨rfl, hb4⟩, g4⟩; have H4 := Lib.hid g4; clear hb4 g4))
        go_end0
        exact ⟨_, _, _, _, _, rfl, rfl, H4.out⟩
      | true =>
        by_cases hd : x.fetch.delim = c
        · have d1 : (x.fetch.delim == c) = true := by simp [hd]
          have d2 : (x.fetch.delim != c) = false := by simp [hd]
          clear hd
          go_enter Tryz.func87, Tryz.ntmps87
          go_wp2_with (first | (go_at_call 47; with_reducible refine (okM G1.out).mono ?_; rintro e w2 ⟨rfl, rfl⟩) | (go_at_call 47; refine (okM H.out).mono ?_; rintro e w' ⟨rfl, rfl⟩) | (go_at_call 86; refine (fetchM H.out).mono ?_; rintro e w1 ⟨r1, x1, vt1, ve1, vm1, rfl, ⟨rfl, rfl, rfl⟩, g1⟩; have z3 := g1.mx.lx.c3; have z7 := g1.mx.lx.c7; have G1 := Lib.hid g1; clear g1) | (go_at_call 104; refine (consumeM G1.out).mono ?_; rintro e w3 ⟨rfl, g3⟩; have c3lt := g3.mx.lx.lt; have H3 := Lib.hid g3; clear g3))
          go_end0
          exact ⟨_, _, _, _, _, rfl, rfl, H3.out.le (Nat.le_succ n)⟩
        · have d1 : (x.fetch.delim == c) = false := by simp [hd]
          have d2 : (x.fetch.delim != c) = true := by simp [hd]
          clear hd
          go_enter Tryz.func87, Tryz.ntmps87
          go_wp2_with (first | (go_at_call 47; with_reducible refine (okM G1.out).mono ?_; rintro e w2 ⟨rfl, rfl⟩) | (go_at_call 47; refine (okM H.out).mono ?_; rintro e w' ⟨rfl, rfl⟩) | (go_at_call 86; refine (fetchM H.out).mono ?_; rintro e w1 ⟨r1, x1, vt1, ve1, vm1, rfl, ⟨rfl, rfl, rfl⟩, g1⟩; have z3 := g1.mx.lx.c3; have z7 := g1.mx.lx.c7; have G1 := Lib.hid g1; clear g1) | (go_at_call 104; refine (consumeM G1.out).mono ?_; rintro e w3 ⟨rfl, g3⟩; have c3lt := g3.mx.lx.lt; have H3 := Lib.hid g3; clear g3) | (go_at_call 103; refine (errM (H3.out.alloc _) hn HF.out _ HSZ.out).mono ?_; rintro e w4 ⟨r4, x4, vt4, ve4, vm4, rfl, ⟨rfl, hb4⟩, g4⟩; have H4 := Lib.hid g4; clear hb4 g4))
          go_end0
          exact ⟨_, _, _, _, _, rfl, rfl, H4.out⟩
set_option maxHeartbeats 4000000 in
set_option maxRecDepth 100000 in
theorem isNullM (h : MSt F w0 vm0 p n w x vt ve vm) :
    Calls Tryz.prog 88 #[.pointer (some ⟨F.b, 0, none⟩)] w (MEnd F w0 vm0 p n fun r x' w' vm' => ∃ t, r = .bool t) := by
  have H := Lib.hid h
  by_cases hk : x.kind = 0
  case neg =>
    have n1 : ((x.kind : Int) == 0) = false := beq_eq_false_iff_ne.2 (by omega)
    have c3 := h.mx.lx.c3
    have HF : RowKit.Hid (F.g → x.multi = true → x.ok = true → Fresh x) := h.freshOld (.inl hk)
    clear h
    cases hok2 : x.ok with
    | false =>
      go_enter Tryz.func88, Tryz.ntmps88
      go_wp2_with (first | (go_at_call 47; refine (okM H.out).mono ?_; rintro e w' ⟨rfl, rfl⟩))
      go_ret
      exact ⟨_, _, _, _, _, rfl, ⟨_, rfl⟩, H.out⟩
    | true =>
      by_cases hd : x.kind = 5
      · have d1 : ((x.kind : Int) == 5) = true := by simp; omega
        have d2 : ((x.kind : Int) != 5) = false := by simp; omega
        clear hd
        go_enter Tryz.func88, Tryz.ntmps88
        go_wp2_with (first | (go_at_call 47; refine (okM H.out).mono ?_; rintro e w' ⟨rfl, rfl⟩))
        go_ret
        exact ⟨_, _, _, _, _, rfl, ⟨_, rfl⟩, H.out⟩
      · have d1 : ((x.kind : Int) == 5) = false := beq_eq_false_iff_ne.2 (by omega)
        have d2 : ((x.kind : Int) != 5) = true := bne_iff_ne.2 (by omega)
        clear hd
        go_enter Tryz.func88, Tryz.ntmps88
        go_wp2_with (first | (go_at_call 47; refine (okM H.out).mono ?_; rintro e w' ⟨rfl, rfl⟩))
        go_ret
        exact ⟨_, _, _, _, _, rfl, ⟨_, rfl⟩, H.out⟩
  case pos =>
    have c3 := h.mx.lx.c3
    rw [hk] at c3
    cases hok : x.ok with
    | false =>
      have HF : RowKit.Hid (F.g → x.multi = true → x.ok = true → Fresh x) := h.freshOld (.inr hok)
      clear h
      go_enter Tryz.func88, Tryz.ntmps88
      go_wp2_with (first | (go_at_call 47; refine (okM H.out).mono ?_; rintro e w' ⟨rfl, rfl⟩))
      go_ret
      exact ⟨_, _, _, _, _, rfl, ⟨_, rfl⟩, H.out⟩
    | true =>
      have HF : RowKit.Hid (F.g → x.fetch.multi = true → x.fetch.ok = true → Fresh x.fetch) := h.freshNew
      clear h hk 
      cases hok2 : x.fetch.ok with
      | false =>
        go_enter Tryz.func88, Tryz.ntmps88
        go_wp2_with (first | (go_at_call 47; with_reducible refine (okM G1.out).mono ?_; rintro e w2 ⟨rfl, rfl⟩) | (go_at_call 47; refine (okM H.out).mono ?_; rintro e w' ⟨rfl, rfl⟩) | (go_at_call 86; refine (fetchM H.out).mono ?_; rintro e w1 ⟨r1, x1, vt1, ve1, vm1, rfl, ⟨rfl, rfl, rfl⟩, g1⟩; have z3 := g1.mx.lx.c3; have G1 := Lib.hid g1; clear g1))
        go_ret
        exact ⟨_, _, _, _, _, rfl, ⟨_, rfl⟩, G1.out⟩
      | true =>
        by_cases hd : x.fetch.kind = 5
        · have d1 : ((x.fetch.kind : Int) == 5) = true := by simp; omega
          have d2 : ((x.fetch.kind : Int) != 5) = false := by simp; omega
          clear hd
          go_enter Tryz.func88, Tryz.ntmps88
          go_wp2_with (first | (go_at_call 47; with_reducible refine (okM G1.out).mono ?_; rintro e w2 ⟨rfl, rfl⟩) | (go_at_call 47; refine (okM H.out).mono ?_; rintro e w' ⟨rfl, rfl⟩) | (go_at_call 86; refine (fetchM H.out).mono ?_; rintro e w1 ⟨r1, x1, vt1, ve1, vm1, rfl, ⟨rfl, rfl, rfl⟩, g1⟩; have z3 := g1.mx.lx.c3; have G1 := Lib.hid g1; clear g1))
          go_ret
          exact ⟨_, _, _, _, _, rfl, ⟨_, rfl⟩, G1.out⟩
        · have d1 : ((x.fetch.kind : Int) == 5) = false := beq_eq_false_iff_ne.2 (by omega)
          have d2 : ((x.fetch.kind : Int) != 5) = true := bne_iff_ne.2 (by omega)
          clear hd
          go_enter Tryz.func88, Tryz.ntmps88
          go_wp2_with (first | (go_at_call 47; with_reducible refine (okM G1.out).mono ?_; rintro e w2 ⟨rfl, rfl⟩) | (go_at_call 47; refine (okM H.out).mono ?_; rintro e w' ⟨rfl, rfl⟩) | (go_at_call 86; refine (fetchM H.out).mono ?_; rintro e w1 ⟨r1, x1, vt1, ve1, vm1, rfl, ⟨rfl, rfl, rfl⟩, g1⟩; have z3 := g1.mx.lx.c3; have G1 := Lib.hid g1; clear g1))
          go_ret
          exact ⟨_, _, _, _, _, rfl, ⟨_, rfl⟩, G1.out⟩
set_option maxHeartbeats 4000000 in
set_option maxRecDepth 100000 in
theorem nullM (h : MSt F w0 vm0 p n w x vt ve vm) (hn : n ≤ 1000000) :
    Calls Tryz.prog 49 #[.pointer (some ⟨F.b, 0, none⟩)] w (MEnd F w0 vm0 p (n + 1) fun r x' w' vm' => r = .tuple #[]) := by
  have H := Lib.hid h
  by_cases hk : x.kind = 0
  case neg =>
    have n1 : ((x.kind : Int) == 0) = false := beq_eq_false_iff_ne.2 (by omega)
    have c3 := h.mx.lx.c3
    have HF : RowKit.Hid (F.g → x.multi = true → x.ok = true → Fresh x) := h.freshOld (.inl hk)
    clear h
    cases hok2 : x.ok with
    | false =>
      go_enter Tryz.func49, Tryz.ntmps49
      go_wp2_with (first | (go_at_call 47; refine (okM H.out).mono ?_; rintro e w' ⟨rfl, rfl⟩) | (go_at_call 103; refine (errM H.out hn (HF.out) _ (by decide)).mono ?_; rintro e w4 ⟨r4, x4, vt4, ve4, vm4, rfl, ⟨rfl, hb4⟩, g4⟩; have H4 := Lib.hid g4; clear hb4 g4) | (go_at_call 104; refine (consumeM H4.out).mono ?_; rintro e w3 ⟨rfl, g3⟩; have c3lt := g3.mx.lx.lt; have H3 := Lib.hid g3; clear g3))
      go_end0
      exact ⟨_, _, _, _, _, rfl, rfl, H3.out⟩
    | true =>
      by_cases hd : x.kind = 5
      · have d1 : ((x.kind : Int) == 5) = true := by simp; omega
        have d2 : ((x.kind : Int) != 5) = false := by simp; omega
        clear hd
        go_enter Tryz.func49, Tryz.ntmps49
        go_wp2_with (first | (go_at_call 47; refine (okM H.out).mono ?_; rintro e w' ⟨rfl, rfl⟩) | (go_at_call 104; refine (consumeM H.out).mono ?_; rintro e w3 ⟨rfl, g3⟩; have c3lt := g3.mx.lx.lt; have H3 := Lib.hid g3; clear g3))
        go_end0
        exact ⟨_, _, _, _, _, rfl, rfl, H3.out.le (Nat.le_succ n)⟩
      · have d1 : ((x.kind : Int) == 5) = false := beq_eq_false_iff_ne.2 (by omega)
        have d2 : ((x.kind : Int) != 5) = true := bne_iff_ne.2 (by omega)
        clear hd
        go_enter Tryz.func49, Tryz.ntmps49
        go_wp2_with (first | (go_at_call 47; refine (okM H.out).mono ?_; rintro e w' ⟨rfl, rfl⟩) | (go_at_call 103; refine (errM H.out hn (HF.out) _ (by decide)).mono ?_; rintro e w4 ⟨r4, x4, vt4, ve4, vm4, rfl, ⟨rfl, hb4⟩, g4⟩; have H4 := Lib.hid g4; clear hb4 g4) | (go_at_call 104; refine (consumeM H4.out).mono ?_; rintro e w3 ⟨rfl, g3⟩; have c3lt := g3.mx.lx.lt; have H3 := Lib.hid g3; clear g3))
        go_end0
        exact ⟨_, _, _, _, _, rfl, rfl, H3.out⟩
  case pos =>
    have c3 := h.mx.lx.c3
    rw [hk] at c3
    cases hok : x.ok with
    | false =>
      have HF : RowKit.Hid (F.g → x.multi = true → x.ok = true → Fresh x) := h.freshOld (.inr hok)
      clear h
      go_enter Tryz.func49, Tryz.ntmps49
      go_wp2_with (first | (go_at_call 47; refine (okM H.out).mono ?_; rintro e w' ⟨rfl, rfl⟩) | (go_at_call 103; refine (errM H.out hn (HF.out) _ (by decide)).mono ?_; rintro e w4 ⟨r4, x4, vt4, ve4, vm4, rfl, ⟨rfl, hb4⟩, g4⟩; have H4 := Lib.hid g4; clear hb4 g4) | (go_at_call 104; refine (consumeM H4.out).mono ?_; rintro e w3 ⟨rfl, g3⟩; have c3lt := g3.mx.lx.lt; have H3 := Lib.hid g3; clear g3))
      go_end0
      exact ⟨_, _, _, _, _, rfl, rfl, H3.out⟩
    | true =>
      have HF : RowKit.Hid (F.g → x.fetch.multi = true → x.fetch.ok = true → Fresh x.fetch) := h.freshNew
      clear h hk 
      cases hok2 : x.fetch.ok with
      | false =>
        go_enter Tryz.func49, Tryz.ntmps49
        go_wp2_with (first | (go_at_call 47; with_reducible refine (okM G1.out).mono ?_; rintro e w2 ⟨rfl, rfl⟩) | (go_at_call 47; refine (okM H.out).mono ?_; rintro e w' ⟨rfl, rfl⟩) | (go_at_call 86; refine (fetchM H.out).mono ?_; rintro e w1 ⟨r1, x1, vt1, ve1, vm1, rfl, ⟨rfl, rfl, rfl⟩, g1⟩; have z3 := g1.mx.lx.c3; have G1 := Lib.hid g1; clear g1) | (go_at_call 103; refine (errM G1.out hn (HF.out) _ (by decide)).mono ?_; rintro e w4 ⟨r4, x4, vt4, ve4, vm4, rfl, ⟨rfl, hb4⟩, g4⟩; have H4 := Lib.hid g4; clear hb4 g4) | (go_at_call 104; refine (consumeM H4.out).mono ?_; rintro e w3 ⟨rfl, g3⟩; have c3lt := g3.mx.lx.lt; have H3 := Lib.hid g3; clear g3))
        go_end0
        exact ⟨_, _, _, _, _, rfl, rfl, H3.out⟩
      | true =>
        by_cases hd : x.fetch.kind = 5
        · have d1 : ((x.fetch.kind : Int) == 5) = true := by simp; omega
          have d2 : ((x.fetch.kind : Int) != 5) = false := by simp; omega
          clear hd
          go_enter Tryz.func49, Tryz.ntmps49
          go_wp2_with (first | (go_at_call 47; with_reducible refine (okM G1.out).mono ?_; rintro e w2 ⟨rfl, rfl⟩) | (go_at_call 47; refine (okM H.out).mono ?_; rintro e w' ⟨rfl, rfl⟩) | (go_at_call 86; refine (fetchM H.out).mono ?_; rintro e w1 ⟨r1, x1, vt1, ve1, vm1, rfl, ⟨rfl, rfl, rfl⟩, g1⟩; have z3 := g1.mx.lx.c3; have G1 := Lib.hid g1; clear g1) | (go_at_call 104; refine (consumeM G1.out).mono ?_; rintro e w3 ⟨rfl, g3⟩; have c3lt := g3.mx.lx.lt; have H3 := Lib.hid g3; clear g3))
          go_end0
          exact ⟨_, _, _, _, _, rfl, rfl, H3.out.le (Nat.le_succ n)⟩
        · have d1 : ((x.fetch.kind : Int) == 5) = false := beq_eq_false_iff_ne.2 (by omega)
          have d2 : ((x.fetch.kind : Int) != 5) = true := bne_iff_ne.2 (by omega)
          clear hd
          go_enter Tryz.func49, Tryz.ntmps49
          go_wp2_with (first | (go_at_call 47; with_reducible refine (okM G1.out).mono ?_; rintro e w2 ⟨rfl, rfl⟩) | (go_at_call 47; refine (okM H.out).mono ?_; rintro e w' ⟨rfl, rfl⟩) | (go_at_call 86; refine (fetchM H.out).mono ?_; rintro e w1 ⟨r1, x1, vt1, ve1, vm1, rfl, ⟨rfl, rfl, rfl⟩, g1⟩; have z3 := g1.mx.lx.c3; have G1 := Lib.hid g1; clear g1) | (go_at_call 103; refine (errM G1.out hn (HF.out) _ (by decide)).mono ?_; rintro e w4 ⟨r4, x4, vt4, ve4, vm4, rfl, ⟨rfl, hb4⟩, g4⟩; have H4 := Lib.hid g4; clear hb4 g4) | (go_at_call 104; refine (consumeM H4.out).mono ?_; rintro e w3 ⟨rfl, g3⟩; have c3lt := g3.mx.lx.lt; have H3 := Lib.hid g3; clear g3))
          go_end0
          exact ⟨_, _, _, _, _, rfl, rfl, H3.out⟩
set_option maxHeartbeats 4000000 in
set_option maxRecDepth 100000 in
theorem boolM (h : MSt F w0 vm0 p n w x vt ve vm) (hn : n ≤ 1000000) :
    Calls Tryz.prog 50 #[.pointer (some ⟨F.b, 0, none⟩)] w (MEnd F w0 vm0 p (n + 1) fun r x' w' vm' => ∃ t, r = .bool t) := by
  have H := Lib.hid h
  by_cases hk : x.kind = 0
  case neg =>
    have n1 : ((x.kind : Int) == 0) = false := beq_eq_false_iff_ne.2 (by omega)
    have c3 := h.mx.lx.c3
    have c4 := h.mx.lx.c4
    have HF : RowKit.Hid (F.g → x.multi = true → x.ok = true → Fresh x) := h.freshOld (.inl hk)
    clear h
    cases hok2 : x.ok with
    | false =>
      go_enter Tryz.func50, Tryz.ntmps50
      go_wp2_with (first | (go_at_call 47; refine (okM H.out).mono ?_; rintro e w' ⟨rfl, rfl⟩) | (go_at_call 103; refine (errM H.out hn (HF.out) _ (by decide)).mono ?_; rintro e w4 ⟨r4, x4, vt4, ve4, vm4, rfl, ⟨rfl, hb4⟩, g4⟩; have H4 := Lib.hid g4; clear hb4 g4))
      go_ret
      exact ⟨_, _, _, _, _, rfl, ⟨_, rfl⟩, H4.out⟩
    | true =>
      by_cases hd : x.kind = 4
      · have d1 : ((x.kind : Int) == 4) = true := by simp; omega
        have d2 : ((x.kind : Int) != 4) = false := by simp; omega
        clear hd
        go_enter Tryz.func50, Tryz.ntmps50
        go_wp2_with (first | (go_at_call 47; refine (okM H.out).mono ?_; rintro e w' ⟨rfl, rfl⟩) | (go_at_call 104; refine (consumeM H.out).mono ?_; rintro e w3 ⟨rfl, g3⟩; have c3lt := g3.mx.lx.lt; have H3 := Lib.hid g3; clear g3))
        go_ret
        exact ⟨_, _, _, _, _, rfl, ⟨_, rfl⟩, H3.out.le (Nat.le_succ n)⟩
      · have d1 : ((x.kind : Int) == 4) = false := beq_eq_false_iff_ne.2 (by omega)
        have d2 : ((x.kind : Int) != 4) = true := bne_iff_ne.2 (by omega)
        clear hd
        go_enter Tryz.func50, Tryz.ntmps50
        go_wp2_with (first | (go_at_call 47; refine (okM H.out).mono ?_; rintro e w' ⟨rfl, rfl⟩) | (go_at_call 103; refine (errM H.out hn (HF.out) _ (by decide)).mono ?_; rintro e w4 ⟨r4, x4, vt4, ve4, vm4, rfl, ⟨rfl, hb4⟩, g4⟩; have H4 := Lib.hid g4; clear hb4 g4))
        go_ret
        exact ⟨_, _, _, _, _, rfl, ⟨_, rfl⟩, H4.out⟩
  case pos =>
    have c3 := h.mx.lx.c3
    rw [hk] at c3
    have c4 := h.mx.lx.c4
    cases hok : x.ok with
    | false =>
      have HF : RowKit.Hid (F.g → x.multi = true → x.ok = true → Fresh x) := h.freshOld (.inr hok)
      clear h
      go_enter Tryz.func50, Tryz.ntmps50
      go_wp2_with (first | (go_at_call 47; refine (okM H.out).mono ?_; rintro e w' ⟨rfl, rfl⟩) | (go_at_call 103; refine (errM H.out hn (HF.out) _ (by decide)).mono ?_; rintro e w4 ⟨r4, x4, vt4, ve4, vm4, rfl, ⟨rfl, hb4⟩, g4⟩; have H4 := Lib.hid g4; clear hb4 g4))
      go_ret
      exact ⟨_, _, _, _, _, rfl, ⟨_, rfl⟩, H4.out⟩
    | true =>
      have HF : RowKit.Hid (F.g → x.fetch.multi = true → x.fetch.ok = true → Fresh x.fetch) := h.freshNew
      clear h hk c4
      cases hok2 : x.fetch.ok with
      | false =>
        go_enter Tryz.func50, Tryz.ntmps50
        go_wp2_with (first | (go_at_call 47; with_reducible refine (okM G1.out).mono ?_; rintro e w2 ⟨rfl, rfl⟩) | (go_at_call 47; refine (okM H.out).mono ?_; rintro e w' ⟨rfl, rfl⟩) | (go_at_call 86; refine (fetchM H.out).mono ?_; rintro e w1 ⟨r1, x1, vt1, ve1, vm1, rfl, ⟨rfl, rfl, rfl⟩, g1⟩; have z3 := g1.mx.lx.c3; have z4 := g1.mx.lx.c4; have G1 := Lib.hid g1; clear g1) | (go_at_call 103; refine (errM G1.out hn (HF.out) _ (by decide)).mono ?_; rintro e w4 ⟨r4, x4, vt4, ve4, vm4, rfl, ⟨rfl, hb4⟩, g4⟩; have H4 := Lib.hid g4; clear hb4 g4))
        go_ret
        exact ⟨_, _, _, _, _, rfl, ⟨_, rfl⟩, H4.out⟩
      | true =>
        by_cases hd : x.fetch.kind = 4
        · have d1 : ((x.fetch.kind : Int) == 4) = true := by simp; omega
          have d2 : ((x.fetch.kind : Int) != 4) = false := by simp; omega
          clear hd
          go_enter Tryz.func50, Tryz.ntmps50
          go_wp2_with (first | (go_at_call 47; with_reducible refine (okM G1.out).mono ?_; rintro e w2 ⟨rfl, rfl⟩) | (go_at_call 47; refine (okM H.out).mono ?_; rintro e w' ⟨rfl, rfl⟩) | (go_at_call 86; refine (fetchM H.out).mono ?_; rintro e w1 ⟨r1, x1, vt1, ve1, vm1, rfl, ⟨rfl, rfl, rfl⟩, g1⟩; have z3 := g1.mx.lx.c3; have z4 := g1.mx.lx.c4; have G1 := Lib.hid g1; clear g1) | (go_at_call 104; refine (consumeM G1.out).mono ?_; rintro e w3 ⟨rfl, g3⟩; have c3lt := g3.mx.lx.lt; have H3 := Lib.hid g3; clear g3))
          go_ret
          exact ⟨_, _, _, _, _, rfl, ⟨_, rfl⟩, H3.out.le (Nat.le_succ n)⟩
        · have d1 : ((x.fetch.kind : Int) == 4) = false := beq_eq_false_iff_ne.2 (by omega)
          have d2 : ((x.fetch.kind : Int) != 4) = true := bne_iff_ne.2 (by omega)
          clear hd
          go_enter Tryz.func50, Tryz.ntmps50
          go_wp2_with (first | (go_at_call 47; with_reducible refine (okM G1.out).mono ?_; rintro e w2 ⟨rfl, rfl⟩) | (go_at_call 47; refine (okM H.out).mono ?_; rintro e w' ⟨rfl, rfl⟩) | (go_at_call 86; refine (fetchM H.out).mono ?_; rintro e w1 ⟨r1, x1, vt1, ve1, vm1, rfl, ⟨rfl, rfl, rfl⟩, g1⟩; have z3 := g1.mx.lx.c3; have z4 := g1.mx.lx.c4; have G1 := Lib.hid g1; clear g1) | (go_at_call 103; refine (errM G1.out hn (HF.out) _ (by decide)).mono ?_; rintro e w4 ⟨r4, x4, vt4, ve4, vm4, rfl, ⟨rfl, hb4⟩, g4⟩; have H4 := Lib.hid g4; clear hb4 g4))
          go_ret
          exact ⟨_, _, _, _, _, rfl, ⟨_, rfl⟩, H4.out⟩
set_option maxHeartbeats 4000000 in
set_option maxRecDepth 100000 in
theorem currentM (h : MSt F w0 vm0 p n w x vt ve vm) :
    Calls Tryz.prog 46 #[.pointer (some ⟨F.b, 0, none⟩)] w (MEnd F w0 vm0 p n fun r x' w' vm' => ∃ k : Nat, r = .int .u8 k ∧ k ≤ 5) := by
  have H := Lib.hid h
  by_cases hk : x.kind = 0
  case neg =>
    have n1 : ((x.kind : Int) == 0) = false := beq_eq_false_iff_ne.2 (by omega)
    have c3 := h.mx.lx.c3
    have HF : RowKit.Hid (F.g → x.multi = true → x.ok = true → Fresh x) := h.freshOld (.inl hk)
    clear h
    cases hok2 : x.ok with
    | false =>
      go_enter Tryz.func46, Tryz.ntmps46
      go_wp2_with (first | (go_at_call 47; refine (okM H.out).mono ?_; rintro e w' ⟨rfl, rfl⟩))
      go_ret
      exact ⟨_, _, _, _, _, rfl, ⟨0, rfl, by decide⟩, H.out⟩
    | true =>
      go_enter Tryz.func46, Tryz.ntmps46
      go_wp2_with (first | (go_at_call 47; refine (okM H.out).mono ?_; rintro e w' ⟨rfl, rfl⟩))
      go_ret
      exact ⟨_, _, _, _, _, rfl, ⟨x.kind, rfl, H.out.good.kind⟩, H.out⟩
  case pos =>
    have c3 := h.mx.lx.c3
    rw [hk] at c3
    cases hok : x.ok with
    | false =>
      have HF : RowKit.Hid (F.g → x.multi = true → x.ok = true → Fresh x) := h.freshOld (.inr hok)
      clear h
      go_enter Tryz.func46, Tryz.ntmps46
      go_wp2_with (first | (go_at_call 47; refine (okM H.out).mono ?_; rintro e w' ⟨rfl, rfl⟩))
      go_ret
      exact ⟨_, _, _, _, _, rfl, ⟨0, rfl, by decide⟩, H.out⟩
    | true =>
      have HF : RowKit.Hid (F.g → x.fetch.multi = true → x.fetch.ok = true → Fresh x.fetch) := h.freshNew
      clear h hk 
      cases hok2 : x.fetch.ok with
      | false =>
        go_enter Tryz.func46, Tryz.ntmps46
        go_wp2_with (first | (go_at_call 47; with_reducible refine (okM G1.out).mono ?_; rintro e w2 ⟨rfl, rfl⟩) | (go_at_call 47; refine (okM H.out).mono ?_; rintro e w' ⟨rfl, rfl⟩) | (go_at_call 86; refine (fetchM H.out).mono ?_; rintro e w1 ⟨r1, x1, vt1, ve1, vm1, rfl, ⟨rfl, rfl, rfl⟩, g1⟩; have z3 := g1.mx.lx.c3; have G1 := Lib.hid g1; clear g1))
        go_ret
        exact ⟨_, _, _, _, _, rfl, ⟨0, rfl, by decide⟩, G1.out⟩
      | true =>
        go_enter Tryz.func46, Tryz.ntmps46
        go_wp2_with (first | (go_at_call 47; with_reducible refine (okM G1.out).mono ?_; rintro e w2 ⟨rfl, rfl⟩) | (go_at_call 47; refine (okM H.out).mono ?_; rintro e w' ⟨rfl, rfl⟩) | (go_at_call 86; refine (fetchM H.out).mono ?_; rintro e w1 ⟨r1, x1, vt1, ve1, vm1, rfl, ⟨rfl, rfl, rfl⟩, g1⟩; have z3 := g1.mx.lx.c3; have G1 := Lib.hid g1; clear g1))
        go_ret
        exact ⟨_, _, _, _, _, rfl, ⟨x.fetch.kind, rfl, G1.out.good.kind⟩, G1.out⟩
set_option maxHeartbeats 4000000 in
set_option maxRecDepth 100000 in
theorem skipM (h : MSt F w0 vm0 p n w x vt ve vm) :
    Calls Tryz.prog 57 #[.pointer (some ⟨F.b, 0, none⟩)] w (MEnd F w0 vm0 p n fun r x' w' vm' => r = .tuple #[]) := by
  have H := Lib.hid h
  by_cases hk : x.kind = 0
  case neg =>
    have n1 : ((x.kind : Int) == 0) = false := beq_eq_false_iff_ne.2 (by omega)
    have c3 := h.mx.lx.c3
    have HF : RowKit.Hid (F.g → x.multi = true → x.ok = true → Fresh x) := h.freshOld (.inl hk)
    clear h
    cases hok2 : x.ok with
    | false =>
      go_enter Tryz.func57, Tryz.ntmps57
      go_wp2_with (first | (go_at_call 47; refine (okM H.out).mono ?_; rintro e w' ⟨rfl, rfl⟩) | (go_at_call 104; refine (consumeM H.out).mono ?_; rintro e w3 ⟨rfl, g3⟩; have c3lt := g3.mx.lx.lt; have H3 := Lib.hid g3; clear g3))
      go_end0
      exact ⟨_, _, _, _, _, rfl, rfl, H3.out⟩
    | true =>
      go_enter Tryz.func57, Tryz.ntmps57
      go_wp2_with (first | (go_at_call 47; refine (okM H.out).mono ?_; rintro e w' ⟨rfl, rfl⟩) | (go_at_call 104; refine (consumeM H.out).mono ?_; rintro e w3 ⟨rfl, g3⟩; have c3lt := g3.mx.lx.lt; have H3 := Lib.hid g3; clear g3))
      go_end0
      exact ⟨_, _, _, _, _, rfl, rfl, H3.out⟩
  case pos =>
    have c3 := h.mx.lx.c3
    rw [hk] at c3
    cases hok : x.ok with
    | false =>
      have HF : RowKit.Hid (F.g → x.multi = true → x.ok = true → Fresh x) := h.freshOld (.inr hok)
      clear h
      go_enter Tryz.func57, Tryz.ntmps57
      go_wp2_with (first | (go_at_call 47; refine (okM H.out).mono ?_; rintro e w' ⟨rfl, rfl⟩) | (go_at_call 104; refine (consumeM H.out).mono ?_; rintro e w3 ⟨rfl, g3⟩; have c3lt := g3.mx.lx.lt; have H3 := Lib.hid g3; clear g3))
      go_end0
      exact ⟨_, _, _, _, _, rfl, rfl, H3.out⟩
    | true =>
      have HF : RowKit.Hid (F.g → x.fetch.multi = true → x.fetch.ok = true → Fresh x.fetch) := h.freshNew
      clear h hk 
      cases hok2 : x.fetch.ok with
      | false =>
        go_enter Tryz.func57, Tryz.ntmps57
        go_wp2_with (first | (go_at_call 47; with_reducible refine (okM G1.out).mono ?_; rintro e w2 ⟨rfl, rfl⟩) | (go_at_call 47; refine (okM H.out).mono ?_; rintro e w' ⟨rfl, rfl⟩) | (go_at_call 86; refine (fetchM H.out).mono ?_; rintro e w1 ⟨r1, x1, vt1, ve1, vm1, rfl, ⟨rfl, rfl, rfl⟩, g1⟩; have z3 := g1.mx.lx.c3; have G1 := Lib.hid g1; clear g1) | (go_at_call 104; refine (consumeM G1.out).mono ?_; rintro e w3 ⟨rfl, g3⟩; have c3lt := g3.mx.lx.lt; have H3 := Lib.hid g3; clear g3))
        go_end0
        exact ⟨_, _, _, _, _, rfl, rfl, H3.out⟩
      | true =>
        go_enter Tryz.func57, Tryz.ntmps57
        go_wp2_with (first | (go_at_call 47; with_reducible refine (okM G1.out).mono ?_; rintro e w2 ⟨rfl, rfl⟩) | (go_at_call 47; refine (okM H.out).mono ?_; rintro e w' ⟨rfl, rfl⟩) | (go_at_call 86; refine (fetchM H.out).mono ?_; rintro e w1 ⟨r1, x1, vt1, ve1, vm1, rfl, ⟨rfl, rfl, rfl⟩, g1⟩; have z3 := g1.mx.lx.c3; have G1 := Lib.hid g1; clear g1) | (go_at_call 104; refine (consumeM G1.out).mono ?_; rintro e w3 ⟨rfl, g3⟩; have c3lt := g3.mx.lx.lt; have H3 := Lib.hid g3; clear g3))
        go_end0
        exact ⟨_, _, _, _, _, rfl, rfl, H3.out⟩
set_option maxHeartbeats 4000000 in
set_option maxRecDepth 100000 in
theorem numberM (h : MSt F w0 vm0 p n w x vt ve vm) (hn : n ≤ 1000000) :
    Calls Tryz.prog 106 #[.pointer (some ⟨F.b, 0, none⟩)] w (MEnd F w0 vm0 p (n + 1) fun r x' w' vm' => ∃ s : ByteArray, r = .string s ∧ s.size ≤ 100000) := by
  have HTF0 : RowKit.Hid (∀ y : Lx, Good F.l F.mu n y → y.ok = true → y.kind = 2 ∨ y.kind = 3 → y.tok.length ≤ 100000) := fun y hy ho hk => Nat.le_trans (hy.tf ho hk).1 hy.len
  have H := Lib.hid h
  by_cases hk : x.kind = 0
  case neg =>
    have n1 : ((x.kind : Int) == 0) = false := beq_eq_false_iff_ne.2 (by omega)
    have c3 := h.mx.lx.c3
    have c6 := h.mx.lx.c6
    have HF : RowKit.Hid (F.g → x.multi = true → x.ok = true → Fresh x) := h.freshOld (.inl hk)
    have HGD : RowKit.Hid (Good F.l F.mu n x) := h.good
    clear h
    cases hok2 : x.ok with
    | false =>
      go_enter Tryz.func106, Tryz.ntmps106
      go_wp2_with (first | (go_at_call 47; refine (okM H.out).mono ?_; rintro e w' ⟨rfl, rfl⟩) | (go_at_call 103; refine (errM H.out hn (HF.out) _ (by decide)).mono ?_; rintro e w4 ⟨r4, x4, vt4, ve4, vm4, rfl, ⟨rfl, hb4⟩, g4⟩; have H4 := Lib.hid g4; clear hb4 g4))
      go_ret
      exact ⟨_, _, _, _, _, rfl, ⟨_, rfl, by decide⟩, H4.out⟩
    | true =>
      by_cases hd : x.kind = 3
      · have d1 : ((x.kind : Int) == 3) = true := by simp; omega
        have d2 : ((x.kind : Int) != 3) = false := by simp; omega
        have HT : RowKit.Hid ((strOfNums x.tok).size ≤ 100000) := by show _ ≤ _; rw [strOfNums_size]; exact HTF0.out _ HGD.out hok2 (.inr hd)
        go_enter Tryz.func106, Tryz.ntmps106
        go_wp2_with (first | (go_at_call 47; refine (okM H.out).mono ?_; rintro e w' ⟨rfl, rfl⟩) | (go_at_call 110; refine (bytesToStr_any H.out.bytes).mono ?_; rintro e w5 ⟨rfl, rfl⟩) | (go_at_call 104; refine (consumeM H.out).mono ?_; rintro e w3 ⟨rfl, g3⟩; have c3lt := g3.mx.lx.lt; have H3 := Lib.hid g3; clear g3))
        go_ret
        exact ⟨_, _, _, _, _, rfl, ⟨_, rfl, HT.out⟩, H3.out.le (Nat.le_succ n)⟩
      · have d1 : ((x.kind : Int) == 3) = false := beq_eq_false_iff_ne.2 (by omega)
        have d2 : ((x.kind : Int) != 3) = true := bne_iff_ne.2 (by omega)
        clear hd
        go_enter Tryz.func106, Tryz.ntmps106
        go_wp2_with (first | (go_at_call 47; refine (okM H.out).mono ?_; rintro e w' ⟨rfl, rfl⟩) | (go_at_call 103; refine (errM H.out hn (HF.out) _ (by decide)).mono ?_; rintro e w4 ⟨r4, x4, vt4, ve4, vm4, rfl, ⟨rfl, hb4⟩, g4⟩; have H4 := Lib.hid g4; clear hb4 g4))
        go_ret
        exact ⟨_, _, _, _, _, rfl, ⟨_, rfl, by decide⟩, H4.out⟩
  case pos =>
    have c3 := h.mx.lx.c3
    rw [hk] at c3
    have c6 := h.mx.lx.c6
    cases hok : x.ok with
    | false =>
      have HF : RowKit.Hid (F.g → x.multi = true → x.ok = true → Fresh x) := h.freshOld (.inr hok)
      have HGD : RowKit.Hid (Good F.l F.mu n x) := h.good
      clear h
      go_enter Tryz.func106, Tryz.ntmps106
      go_wp2_with (first | (go_at_call 47; refine (okM H.out).mono ?_; rintro e w' ⟨rfl, rfl⟩) | (go_at_call 103; refine (errM H.out hn (HF.out) _ (by decide)).mono ?_; rintro e w4 ⟨r4, x4, vt4, ve4, vm4, rfl, ⟨rfl, hb4⟩, g4⟩; have H4 := Lib.hid g4; clear hb4 g4))
      go_ret
      exact ⟨_, _, _, _, _, rfl, ⟨_, rfl, by decide⟩, H4.out⟩
    | true =>
      have HF : RowKit.Hid (F.g → x.fetch.multi = true → x.fetch.ok = true → Fresh x.fetch) := h.freshNew
      have HGD : RowKit.Hid (Good F.l F.mu n x.fetch) := h.good.fetch
      clear h hk c6
      cases hok2 : x.fetch.ok with
      | false =>
        go_enter Tryz.func106, Tryz.ntmps106
        go_wp2_with (first | (go_at_call 47; with_reducible refine (okM G1.out).mono ?_; rintro e w2 ⟨rfl, rfl⟩) | (go_at_call 47; refine (okM H.out).mono ?_; rintro e w' ⟨rfl, rfl⟩) | (go_at_call 86; refine (fetchM H.out).mono ?_; rintro e w1 ⟨r1, x1, vt1, ve1, vm1, rfl, ⟨rfl, rfl, rfl⟩, g1⟩; have z3 := g1.mx.lx.c3; have z6 := g1.mx.lx.c6; have G1 := Lib.hid g1; clear g1) | (go_at_call 103; refine (errM G1.out hn (HF.out) _ (by decide)).mono ?_; rintro e w4 ⟨r4, x4, vt4, ve4, vm4, rfl, ⟨rfl, hb4⟩, g4⟩; have H4 := Lib.hid g4; clear hb4 g4))
        go_ret
        exact ⟨_, _, _, _, _, rfl, ⟨_, rfl, by decide⟩, H4.out⟩
      | true =>
        by_cases hd : x.fetch.kind = 3
        · have d1 : ((x.fetch.kind : Int) == 3) = true := by simp; omega
          have d2 : ((x.fetch.kind : Int) != 3) = false := by simp; omega
          have HT : RowKit.Hid ((strOfNums x.fetch.tok).size ≤ 100000) := by show _ ≤ _; rw [strOfNums_size]; exact HTF0.out _ HGD.out hok2 (.inr hd)
          go_enter Tryz.func106, Tryz.ntmps106
          go_wp2_with (first | (go_at_call 47; with_reducible refine (okM G1.out).mono ?_; rintro e w2 ⟨rfl, rfl⟩) | (go_at_call 47; refine (okM H.out).mono ?_; rintro e w' ⟨rfl, rfl⟩) | (go_at_call 86; refine (fetchM H.out).mono ?_; rintro e w1 ⟨r1, x1, vt1, ve1, vm1, rfl, ⟨rfl, rfl, rfl⟩, g1⟩; have z3 := g1.mx.lx.c3; have z6 := g1.mx.lx.c6; have G1 := Lib.hid g1; clear g1) | (go_at_call 110; refine (bytesToStr_any G1.out.bytes).mono ?_; rintro e w5 ⟨rfl, rfl⟩) | (go_at_call 104; refine (consumeM G1.out).mono ?_; rintro e w3 ⟨rfl, g3⟩; have c3lt := g3.mx.lx.lt; have H3 := Lib.hid g3; clear g3))
          go_ret
          exact ⟨_, _, _, _, _, rfl, ⟨_, rfl, HT.out⟩, H3.out.le (Nat.le_succ n)⟩
        · have d1 : ((x.fetch.kind : Int) == 3) = false := beq_eq_false_iff_ne.2 (by omega)
          have d2 : ((x.fetch.kind : Int) != 3) = true := bne_iff_ne.2 (by omega)
          clear hd
          go_enter Tryz.func106, Tryz.ntmps106
          go_wp2_with (first | (go_at_call 47; with_reducible refine (okM G1.out).mono ?_; rintro e w2 ⟨rfl, rfl⟩) | (go_at_call 47; refine (okM H.out).mono ?_; rintro e w' ⟨rfl, rfl⟩) | (go_at_call 86; refine (fetchM H.out).mono ?_; rintro e w1 ⟨r1, x1, vt1, ve1, vm1, rfl, ⟨rfl, rfl, rfl⟩, g1⟩; have z3 := g1.mx.lx.c3; have z6 := g1.mx.lx.c6; have G1 := Lib.hid g1; clear g1) | (go_at_call 103; refine (errM G1.out hn (HF.out) _ (by decide)).mono ?_; rintro e w4 ⟨r4, x4, vt4, ve4, vm4, rfl, ⟨rfl, hb4⟩, g4⟩; have H4 := Lib.hid g4; clear hb4 g4))
          go_ret
          exact ⟨_, _, _, _, _, rfl, ⟨_, rfl, by decide⟩, H4.out⟩
end
end Go.Proofs.YtaecbclonmhbcaaGreatDoor
