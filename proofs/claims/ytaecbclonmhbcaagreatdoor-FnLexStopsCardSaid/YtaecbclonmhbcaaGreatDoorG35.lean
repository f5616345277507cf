/- FetchToken, at every state. The methods over tokens, of a lexer with one error: IsDelim, Delim, IsNull, Null, Bool, CurrentToken. Printed by gen_tok.py. addNonfatalError of a lexer with one error: the error is set. impl.mark and impl.text, the calls that the claims make. -/
import Derived.Test.YtaecbclonmhbcaaGreatDoorG14
import Derived.Test.YtaecbclonmhbcaaGreatDoorG30
import Derived.Test.YtaecbclonmhbcaaGreatDoorG29
import Derived.WalkMore
import Derived.Test.YtaecbclonmhbcaaGreatDoorG31
import Derived.Test.YtaecbclonmhbcaaGreatDoorG33
set_option linter.unusedVariables false
set_option linter.unusedSimpArgs false
/- FetchToken, at every state. -/
namespace Go.Proofs.YtaecbclonmhbcaaGreatDoor
open Go.RowKit

section
variable {w : World} {b : Nat} {ae : Sur} {ao : Addr} {x : Lx} {vd vt ve vm : Value}
theorem fetchToken_any (h : LexAt w b ae ao x vd vt ve vm) (hw : x.Wf) :
    Calls Tryz.prog 86 #[.pointer (some ⟨b, 0, none⟩)] w fun e w' => e = .returned (.tuple #[]) ∧ NumDone w b ae ao x.fetch vd vm w' := by
  have hp := hw.pos
  rcases h.data with ⟨h0, rfl⟩ | ⟨bd, o, cap, rfl, hc, hne, hx⟩
  · have hl : x.d.length = 0 := by rw [h0]; rfl
    exact fetchToken_none h (by omega) hl
  · by_cases hcp : cap = x.pos
    · obtain rfl : cap = x.d.length := by omega
      exact fetchToken_cap bd o h hw hcp.symm
    · exact fetchToken_more bd o cap h hw hc (fun e => hne.1 (.inl e)) hcp
end
end Go.Proofs.YtaecbclonmhbcaaGreatDoor

/- The methods over tokens, of a lexer with one error: IsDelim, Delim, IsNull, Null, Bool, CurrentToken. Printed by gen_tok.py. -/
namespace Go.Proofs.YtaecbclonmhbcaaGreatDoor
open Go.RowKit

namespace Lx
def isDelim (x : Lx) (c : Int) : Bool := !x.peek.ok || x.peek.delim == c
def delimS (x : Lx) (c : Int) : Lx := if !x.ok || x.delim != c then x.consume.fail else x.consume
def delimP (x : Lx) (c : Int) : Lx := x.peek.delimS c
def isNull (x : Lx) : Bool := x.peek.ok && x.peek.kind == 5
def nullS (x : Lx) : Lx := (if !x.ok || x.kind != 5 then x.fail else x).consume
def null (x : Lx) : Lx := x.peek.nullS
def boolS (x : Lx) : Lx := if !x.ok || x.kind != 4 then x.fail else x.consume
def boolR (x : Lx) : Bool := if !x.ok || x.kind != 4 then false else x.bv
def bool (x : Lx) : Lx := x.peek.boolS
def boolV (x : Lx) : Bool := x.peek.boolR
def currentR (x : Lx) : Nat := if x.ok then x.kind else 0
def current (x : Lx) : Nat := x.peek.currentR
end Lx

section
variable {w : World} {b : Nat} {ae : Sur} {ao : Addr} {x : Lx} {vd vt ve vm : Value}

theorem peek_kept (h : (x.kind == 0 && x.ok) = false) : x.peek = x := by unfold Lx.peek; rw [h]; rfl
theorem peek_new (h : (x.kind == 0 && x.ok) = true) : x.peek = x.fetch := by unfold Lx.peek; rw [h]; rfl
/-- string([]byte{c}). -/
theorem one_byte_str {c : Int} (W : World) : ∀ dst, Tryz.prog.underlying dst = some .string →
    (convert 22 dst (.slice (some ⟨W.heap.size, 0, none⟩) 1 1)).run Tryz.prog (W.alloc (.cells #[.int .u8 c] 5)) = .ok (.string (strOfNums [c])) (W.alloc (.cells #[.int .u8 c] 5)) :=
  run_convert_bytes_arg (W.alloc (.cells #[.int .u8 c] 5)) 22 5 Tryz.underlying22 Tryz.underlying5 W.heap.size 0 1 1 [c] rfl (fun i hi => by
    obtain rfl : i = 0 := by omega
    simp)
theorem consume_same : x.Same x.consume := ⟨rfl, rfl, rfl⟩
theorem Lx.Wf.consume (h : x.Wf) : x.consume.Wf := h.as rfl rfl rfl

set_option maxHeartbeats 4000000 in
set_option maxRecDepth 100000 in
theorem isDelim_any (h : LexAt w b ae ao x vd vt ve vm) (hw : x.Wf) (hm : x.multi = false) (c : Int) :
    Calls Tryz.prog 54 #[.pointer (some ⟨b, 0, none⟩), .int .u8 c] w fun e w' => e = .returned (.bool (x.isDelim c)) ∧ NumDone w b ae ao x.peek vd vm w' := by
  unfold Lx.isDelim
  have H := Lib.hid h
  have HW := Lib.hid hw
  by_cases hk : x.kind = 0
  case neg =>
    rw [peek_kept (by simp [hk])]
    have n1 : ((x.kind : Int) == 0) = false := beq_eq_false_iff_ne.2 (by omega)
    have HM := Lib.hid hm
    have HKD : RowKit.Hid (x.kind ≠ 0) := hk
    have c3 := h.c3
    have c7 := h.c7
    clear h hw hk hm
    cases hok2 : x.ok with
    | false =>
      go_enter Tryz.func54, Tryz.ntmps54
      go_wp2_with (first | (go_at_call 47; refine (ok_any H.out).mono ?_; rintro e w' ⟨rfl, rfl⟩))
      go_ret
      exact ⟨rfl, _, _, H.out, (Kept.refl b w)⟩
    | true =>
      go_enter Tryz.func54, Tryz.ntmps54
      go_wp2_with (first | (go_at_call 47; refine (ok_any H.out).mono ?_; rintro e w' ⟨rfl, rfl⟩))
      go_ret
      exact ⟨rfl, _, _, H.out, (Kept.refl b w)⟩
  case pos =>
    have c3 := h.c3
    rw [hk] at c3
    have c7 := h.c7
    have HM := Lib.hid hm
    cases hok : x.ok with
    | false =>
      rw [peek_kept (by simp [hok])]
      have HKD := Lib.hid hk
      clear h hw hm
      rw [hok]
      go_enter Tryz.func54, Tryz.ntmps54
      go_wp2_with (first | (go_at_call 47; refine (ok_any H.out).mono ?_; rintro e w' ⟨rfl, rfl⟩))
      go_ret
      exact ⟨rfl, _, _, H.out, (Kept.refl b w)⟩
    | true =>
      rw [peek_new (by simp [hok, hk])]
      have HM2 : RowKit.Hid (x.fetch.multi = false) := fetch_same.multi.trans hm
      clear h hw hk hm c7
      cases hok2 : x.fetch.ok with
      | false =>
        go_enter Tryz.func54, Tryz.ntmps54
        go_wp2_with (first | (go_at_call 47; with_reducible refine (ok_any G1.out).mono ?_; rintro e w2 ⟨rfl, rfl⟩) | (go_at_call 47; refine (ok_any H.out).mono ?_; rintro e w' ⟨rfl, rfl⟩) | (go_at_call 86; refine (fetchToken_any H.out HW.out).mono ?_; rintro e w1 ⟨rfl, vt1, ve1, g1, g2⟩; have z7 := g1.c7; have G1 := Lib.hid g1; have G2 := Lib.hid g2; clear g1 g2))
        go_ret
        exact ⟨rfl, _, _, G1.out, G2.out⟩
      | true =>
        go_enter Tryz.func54, Tryz.ntmps54
        go_wp2_with (first | (go_at_call 47; with_reducible refine (ok_any G1.out).mono ?_; rintro e w2 ⟨rfl, rfl⟩) | (go_at_call 47; refine (ok_any H.out).mono ?_; rintro e w' ⟨rfl, rfl⟩) | (go_at_call 86; refine (fetchToken_any H.out HW.out).mono ?_; rintro e w1 ⟨rfl, vt1, ve1, g1, g2⟩; have z7 := g1.c7; have G1 := Lib.hid g1; have G2 := Lib.hid g2; clear g1 g2))
        go_ret
        exact ⟨rfl, _, _, G1.out, G2.out⟩

set_option maxHeartbeats 4000000 in
set_option maxRecDepth 100000 in
theorem delim_any (h : LexAt w b ae ao x vd vt ve vm) (hw : x.Wf) (hm : x.multi = false) (c : Int) :
    Calls Tryz.prog 87 #[.pointer (some ⟨b, 0, none⟩), .int .u8 c] w fun e w' => e = .returned (.tuple #[]) ∧ NumDone w b ae ao (x.delimP c) vd vm w' := by
  unfold Lx.delimP
  have hcv1 := one_byte_str (c := c)
  have HSZ : RowKit.Hid ((strOfNums [c]).size ≤ 1000) := by show _ ≤ _; rw [strOfNums_size]; simp
  have H := Lib.hid h
  have HW := Lib.hid hw
  by_cases hk : x.kind = 0
  case neg =>
    rw [peek_kept (by simp [hk])]
    have n1 : ((x.kind : Int) == 0) = false := beq_eq_false_iff_ne.2 (by omega)
    have HM := Lib.hid hm
    have HKD : RowKit.Hid (x.kind ≠ 0) := hk
    have c3 := h.c3
    have c7 := h.c7
    clear h hw hk hm
    cases hok2 : x.ok with
    | false =>
      have HE : RowKit.Hid (x.delimS c = x.consume.fail) := by show _ = _; unfold Lx.delimS; rw [if_pos (by simp [hok2])]
      go_enter Tryz.func87, Tryz.ntmps87
      go_wp2_with (first | (go_at_call 47; refine (ok_any H.out).mono ?_; rintro e w' ⟨rfl, rfl⟩) | (go_at_call 104; refine (consume_any H.out).mono ?_; rintro e w3 ⟨rfl, g3, g4⟩; have c3lt := g3.lt; have G3 := Lib.hid g3; have G4 := Lib.hid g4; clear g3 g4) | (go_at_call 103; refine (errInvalid_any (x := x.consume) (G3.out.alloc _) (consume_same.multi.trans HM.out) _ HSZ.out).mono ?_; rintro e w4 ⟨rfl, ve4, g5, g6⟩))
      go_end0
      rw [HE.out]
      exact ⟨rfl, _, ve4, g5, ((((Kept.refl b w).trans G4.out).alloc _).trans g6)⟩
    | true =>
      by_cases hd : x.delim = c
      · have HE : RowKit.Hid (x.delimS c = x.consume) := by show _ = _; unfold Lx.delimS; rw [if_neg (by simp [hok2, hd])]
        have d1 : (x.delim == c) = true := by simp [hd]
        have d2 : (x.delim != c) = false := by simp [hd]
        clear hd
        go_enter Tryz.func87, Tryz.ntmps87
        go_wp2_with (first | (go_at_call 47; refine (ok_any H.out).mono ?_; rintro e w' ⟨rfl, rfl⟩) | (go_at_call 104; refine (consume_any H.out).mono ?_; rintro e w3 ⟨rfl, g3, g4⟩; have c3lt := g3.lt; have G3 := Lib.hid g3; have G4 := Lib.hid g4; clear g3 g4))
        go_end0
        rw [HE.out]
        exact ⟨rfl, _, _, G3.out, (Kept.refl b w).trans G4.out⟩
      · have HE : RowKit.Hid (x.delimS c = x.consume.fail) := by show _ = _; unfold Lx.delimS; rw [if_pos (by simp [hok2, hd])]
        have d1 : (x.delim == c) = false := by simp [hd]
        have d2 : (x.delim != c) = true := by simp [hd]
        clear hd
        go_enter Tryz.func87, Tryz.ntmps87
        go_wp2_with (first | (go_at_call 47; refine (ok_any H.out).mono ?_; rintro e w' ⟨rfl, rfl⟩) | (go_at_call 104; refine (consume_any H.out).mono ?_; rintro e w3 ⟨rfl, g3, g4⟩; have c3lt := g3.lt; have G3 := Lib.hid g3; have G4 := Lib.hid g4; clear g3 g4) | (go_at_call 103; refine (errInvalid_any (x := x.consume) (G3.out.alloc _) (consume_same.multi.trans HM.out) _ HSZ.out).mono ?_; rintro e w4 ⟨rfl, ve4, g5, g6⟩))
        go_end0
        rw [HE.out]
        exact ⟨rfl, _, ve4, g5, ((((Kept.refl b w).trans G4.out).alloc _).trans g6)⟩
  case pos =>
    have c3 := h.c3
    rw [hk] at c3
    have c7 := h.c7
    have HM := Lib.hid hm
    cases hok : x.ok with
    | false =>
      rw [peek_kept (by simp [hok])]
      have HKD := Lib.hid hk
      clear h hw hm
      have HE : RowKit.Hid (x.delimS c = x.consume.fail) := by show _ = _; unfold Lx.delimS; rw [if_pos (by simp [hok])]
      go_enter Tryz.func87, Tryz.ntmps87
      go_wp2_with (first | (go_at_call 47; refine (ok_any H.out).mono ?_; rintro e w' ⟨rfl, rfl⟩) | (go_at_call 104; refine (consume_any H.out).mono ?_; rintro e w3 ⟨rfl, g3, g4⟩; have c3lt := g3.lt; have G3 := Lib.hid g3; have G4 := Lib.hid g4; clear g3 g4) | (go_at_call 103; refine (errInvalid_any (x := x.consume) (G3.out.alloc _) (consume_same.multi.trans HM.out) _ HSZ.out).mono ?_; rintro e w4 ⟨rfl, ve4, g5, g6⟩))
      go_end0
      rw [HE.out]
      exact ⟨rfl, _, ve4, g5, ((((Kept.refl b w).trans G4.out).alloc _).trans g6)⟩
    | true =>
      rw [peek_new (by simp [hok, hk])]
      have HM2 : RowKit.Hid (x.fetch.multi = false) := fetch_same.multi.trans hm
      clear h hw hk hm c7
      cases hok2 : x.fetch.ok with
      | false =>
        have HE : RowKit.Hid (x.fetch.delimS c = x.fetch.consume.fail) := by show _ = _; unfold Lx.delimS; rw [if_pos (by simp [hok2])]
        go_enter Tryz.func87, Tryz.ntmps87
        go_wp2_with (first | (go_at_call 47; with_reducible refine (ok_any G1.out).mono ?_; rintro e w2 ⟨rfl, rfl⟩) | (go_at_call 47; refine (ok_any H.out).mono ?_; rintro e w' ⟨rfl, rfl⟩) | (go_at_call 86; refine (fetchToken_any H.out HW.out).mono ?_; rintro e w1 ⟨rfl, vt1, ve1, g1, g2⟩; have z7 := g1.c7; have G1 := Lib.hid g1; have G2 := Lib.hid g2; clear g1 g2) | (go_at_call 104; refine (consume_any G1.out).mono ?_; rintro e w3 ⟨rfl, g3, g4⟩; have c3lt := g3.lt; have G3 := Lib.hid g3; have G4 := Lib.hid g4; clear g3 g4) | (go_at_call 103; refine (errInvalid_any (x := x.fetch.consume) (G3.out.alloc _) (consume_same.multi.trans HM2.out) _ HSZ.out).mono ?_; rintro e w4 ⟨rfl, ve4, g5, g6⟩))
        go_end0
        rw [HE.out]
        exact ⟨rfl, _, ve4, g5, (((G2.out.trans G4.out).alloc _).trans g6)⟩
      | true =>
        by_cases hd : x.fetch.delim = c
        · have HE : RowKit.Hid (x.fetch.delimS c = x.fetch.consume) := by show _ = _; unfold Lx.delimS; rw [if_neg (by simp [hok2, hd])]
          have d1 : (x.fetch.delim == c) = true := by simp [hd]
          have d2 : (x.fetch.delim != c) = false := by simp [hd]
          clear hd
          go_enter Tryz.func87, Tryz.ntmps87
          go_wp2_with (first | (go_at_call 47; with_reducible refine (ok_any G1.out).mono ?_; rintro e w2 ⟨rfl, rfl⟩) | (go_at_call 47; refine (ok_any H.out).mono ?_; rintro e w' ⟨rfl, rfl⟩) | (go_at_call 86; refine (fetchToken_any H.out HW.out).mono ?_; rintro e w1 ⟨rfl, vt1, ve1, g1, g2⟩; have z7 := g1.c7; have G1 := Lib.hid g1; have G2 := Lib.hid g2; clear g1 g2) | (go_at_call 104; refine (consume_any G1.out).mono ?_; rintro e w3 ⟨rfl, g3, g4⟩; have c3lt := g3.lt; have G3 := Lib.hid g3; have G4 := Lib.hid g4; clear g3 g4))
          go_end0
          rw [HE.out]
          exact ⟨rfl, _, _, G3.out, G2.out.trans G4.out⟩
        · have HE : RowKit.Hid (x.fetch.delimS c = x.fetch.consume.fail) := by show _ = _; unfold Lx.delimS; rw [if_pos (by simp [hok2, hd])]
          have d1 : (x.fetch.delim == c) = false := by simp [hd]
          have d2 : (x.fetch.delim != c) = true := by simp [hd]
          clear hd
          go_enter Tryz.func87, Tryz.ntmps87
          go_wp2_with (first | (go_at_call 47; with_reducible refine (ok_any G1.out).mono ?_; rintro e w2 ⟨rfl, rfl⟩) | (go_at_call 47; refine (ok_any H.out).mono ?_; rintro e w' ⟨rfl, rfl⟩) | (go_at_call 86; refine (fetchToken_any H.out HW.out).mono ?_; rintro e w1 ⟨rfl, vt1, ve1, g1, g2⟩; have z7 := g1.c7; have G1 := Lib.hid g1; have G2 := Lib.hid g2; clear g1 g2) | (go_at_call 104; refine (consume_any G1.out).mono ?_; rintro e w3 ⟨rfl, g3, g4⟩; have c3lt := g3.lt; have G3 := Lib.hid g3; have G4 := Lib.hid g4; clear g3 g4) | (go_at_call 103; refine (errInvalid_any (x := x.fetch.consume) (G3.out.alloc _) (consume_same.multi.trans HM2.out) _ HSZ.out).mono ?_; rintro e w4 ⟨rfl, ve4, g5, g6⟩))
          go_end0
          rw [HE.out]
          exact ⟨rfl, _, ve4, g5, (((G2.out.trans G4.out).alloc _).trans g6)⟩

set_option maxHeartbeats 4000000 in
set_option maxRecDepth 100000 in
theorem isNull_any (h : LexAt w b ae ao x vd vt ve vm) (hw : x.Wf) (hm : x.multi = false) :
    Calls Tryz.prog 88 #[.pointer (some ⟨b, 0, none⟩)] w fun e w' => e = .returned (.bool x.isNull) ∧ NumDone w b ae ao x.peek vd vm w' := by
  unfold Lx.isNull
  have H := Lib.hid h
  have HW := Lib.hid hw
  by_cases hk : x.kind = 0
  case neg =>
    rw [peek_kept (by simp [hk])]
    have n1 : ((x.kind : Int) == 0) = false := beq_eq_false_iff_ne.2 (by omega)
    have HM := Lib.hid hm
    have HKD : RowKit.Hid (x.kind ≠ 0) := hk
    have c3 := h.c3
    clear h hw hk hm
    cases hok2 : x.ok with
    | false =>
      go_enter Tryz.func88, Tryz.ntmps88
      go_wp2_with (first | (go_at_call 47; refine (ok_any H.out).mono ?_; rintro e w' ⟨rfl, rfl⟩))
      go_ret
      exact ⟨by first | rfl | (rw [hok2]; rfl), _, _, H.out, (Kept.refl b w)⟩
    | true =>
      by_cases hd : x.kind = 5
      · have HE : RowKit.Hid ((x.kind == 5) = true) := by show _ = _; simp [hd]
        have d1 : ((x.kind : Int) == 5) = true := by simp; omega
        clear hd
        go_enter Tryz.func88, Tryz.ntmps88
        go_wp2_with (first | (go_at_call 47; refine (ok_any H.out).mono ?_; rintro e w' ⟨rfl, rfl⟩))
        go_ret
        rw [HE.out]
        exact ⟨rfl, _, _, H.out, (Kept.refl b w)⟩
      · have HE : RowKit.Hid ((x.kind == 5) = false) := by show _ = _; simp [hd]
        have d1 : ((x.kind : Int) == 5) = false := by simp; omega
        clear hd
        go_enter Tryz.func88, Tryz.ntmps88
        go_wp2_with (first | (go_at_call 47; refine (ok_any H.out).mono ?_; rintro e w' ⟨rfl, rfl⟩))
        go_ret
        rw [HE.out]
        exact ⟨rfl, _, _, H.out, (Kept.refl b w)⟩
  case pos =>
    have c3 := h.c3
    rw [hk] at c3
    have HM := Lib.hid hm
    cases hok : x.ok with
    | false =>
      rw [peek_kept (by simp [hok])]
      have HKD := Lib.hid hk
      clear h hw hm
      go_enter Tryz.func88, Tryz.ntmps88
      go_wp2_with (first | (go_at_call 47; refine (ok_any H.out).mono ?_; rintro e w' ⟨rfl, rfl⟩))
      go_ret
      exact ⟨by first | rfl | (rw [hok]; rfl), _, _, H.out, (Kept.refl b w)⟩
    | true =>
      rw [peek_new (by simp [hok, hk])]
      have HM2 : RowKit.Hid (x.fetch.multi = false) := fetch_same.multi.trans hm
      clear h hw hk hm
      cases hok2 : x.fetch.ok with
      | false =>
        go_enter Tryz.func88, Tryz.ntmps88
        go_wp2_with (first | (go_at_call 47; with_reducible refine (ok_any G1.out).mono ?_; rintro e w2 ⟨rfl, rfl⟩) | (go_at_call 47; refine (ok_any H.out).mono ?_; rintro e w' ⟨rfl, rfl⟩) | (go_at_call 86; refine (fetchToken_any H.out HW.out).mono ?_; rintro e w1 ⟨rfl, vt1, ve1, g1, g2⟩; have z3 := g1.c3; have G1 := Lib.hid g1; have G2 := Lib.hid g2; clear g1 g2))
        go_ret
        exact ⟨by first | rfl | (rw [hok2]; rfl), _, _, G1.out, G2.out⟩
      | true =>
        by_cases hd : x.fetch.kind = 5
        · have HE : RowKit.Hid ((x.fetch.kind == 5) = true) := by show _ = _; simp [hd]
          have d1 : ((x.fetch.kind : Int) == 5) = true := by simp; omega
          clear hd
          go_enter Tryz.func88, Tryz.ntmps88
          go_wp2_with (first | (go_at_call 47; with_reducible refine (ok_any G1.out).mono ?_; rintro e w2 ⟨rfl, rfl⟩) | (go_at_call 47; refine (ok_any H.out).mono ?_; rintro e w' ⟨rfl, rfl⟩) | (go_at_call 86; refine (fetchToken_any H.out HW.out).mono ?_; rintro e w1 ⟨rfl, vt1, ve1, g1, g2⟩; have z3 := g1.c3; have G1 := Lib.hid g1; have G2 := Lib.hid g2; clear g1 g2))
          go_ret
          rw [HE.out]
          exact ⟨rfl, _, _, G1.out, G2.out⟩
        · have HE : RowKit.Hid ((x.fetch.kind == 5) = false) := by show _ = _; simp [hd]
          have d1 : ((x.fetch.kind : Int) == 5) = false := by simp; omega
          clear hd
          go_enter Tryz.func88, Tryz.ntmps88
          go_wp2_with (first | (go_at_call 47; with_reducible refine (ok_any G1.out).mono ?_; rintro e w2 ⟨rfl, rfl⟩) | (go_at_call 47; refine (ok_any H.out).mono ?_; rintro e w' ⟨rfl, rfl⟩) | (go_at_call 86; refine (fetchToken_any H.out HW.out).mono ?_; rintro e w1 ⟨rfl, vt1, ve1, g1, g2⟩; have z3 := g1.c3; have G1 := Lib.hid g1; have G2 := Lib.hid g2; clear g1 g2))
          go_ret
          rw [HE.out]
          exact ⟨rfl, _, _, G1.out, G2.out⟩

set_option maxHeartbeats 4000000 in
set_option maxRecDepth 100000 in
theorem null_any (h : LexAt w b ae ao x vd vt ve vm) (hw : x.Wf) (hm : x.multi = false) :
    Calls Tryz.prog 49 #[.pointer (some ⟨b, 0, none⟩)] w fun e w' => e = .returned (.tuple #[]) ∧ NumDone w b ae ao x.null vd vm w' := by
  unfold Lx.null
  have H := Lib.hid h
  have HW := Lib.hid hw
  by_cases hk : x.kind = 0
  case neg =>
    rw [peek_kept (by simp [hk])]
    have n1 : ((x.kind : Int) == 0) = false := beq_eq_false_iff_ne.2 (by omega)
    have HM := Lib.hid hm
    have HKD : RowKit.Hid (x.kind ≠ 0) := hk
    have c3 := h.c3
    clear h hw hk hm
    cases hok2 : x.ok with
    | false =>
      have HE : RowKit.Hid (x.nullS = x.fail.consume) := by show _ = _; unfold Lx.nullS; rw [if_pos (by simp [hok2])]
      go_enter Tryz.func49, Tryz.ntmps49
      go_wp2_with (first | (go_at_call 47; refine (ok_any H.out).mono ?_; rintro e w' ⟨rfl, rfl⟩) | (go_at_call 103; refine (errInvalid_any H.out HM.out _ (by decide)).mono ?_; rintro e w4 ⟨rfl, ve4, g5, g6⟩; have G5 := Lib.hid g5; have G6 := Lib.hid g6; clear g5 g6) | (go_at_call 104; refine (consume_any G5.out).mono ?_; rintro e w3 ⟨rfl, g3, g4⟩))
      go_end0
      rw [HE.out]
      exact ⟨rfl, _, _, g3, ((Kept.refl b w).trans G6.out).trans g4⟩
    | true =>
      by_cases hd : x.kind = 5
      · have HE : RowKit.Hid (x.nullS = x.consume) := by show _ = _; unfold Lx.nullS; rw [if_neg (by simp [hok2, hd])]
        have d1 : ((x.kind : Int) == 5) = true := by simp; omega
        have d2 : ((x.kind : Int) != 5) = false := by simp; omega
        clear hd
        go_enter Tryz.func49, Tryz.ntmps49
        go_wp2_with (first | (go_at_call 47; refine (ok_any H.out).mono ?_; rintro e w' ⟨rfl, rfl⟩) | (go_at_call 104; refine (consume_any H.out).mono ?_; rintro e w3 ⟨rfl, g3, g4⟩))
        go_end0
        rw [HE.out]
        exact ⟨rfl, _, _, g3, (Kept.refl b w).trans g4⟩
      · have d1 : ((x.kind : Int) == 5) = false := beq_eq_false_iff_ne.2 (by omega)
        have d2 : ((x.kind : Int) != 5) = true := bne_iff_ne.2 (by omega)
        have HE : RowKit.Hid (x.nullS = x.fail.consume) := by show _ = _; unfold Lx.nullS; rw [if_pos (by simp [hok2, hd])]
        clear hd
        go_enter Tryz.func49, Tryz.ntmps49
        go_wp2_with (first | (go_at_call 47; refine (ok_any H.out).mono ?_; rintro e w' ⟨rfl, rfl⟩) | (go_at_call 103; refine (errInvalid_any H.out HM.out _ (by decide)).mono ?_; rintro e w4 ⟨rfl, ve4, g5, g6⟩; have G5 := Lib.hid g5; have G6 := Lib.hid g6; clear g5 g6) | (go_at_call 104; refine (consume_any G5.out).mono ?_; rintro e w3 ⟨rfl, g3, g4⟩))
        go_end0
        rw [HE.out]
        exact ⟨rfl, _, _, g3, ((Kept.refl b w).trans G6.out).trans g4⟩
  case pos =>
    have c3 := h.c3
    rw [hk] at c3
    have HM := Lib.hid hm
    cases hok : x.ok with
    | false =>
      rw [peek_kept (by simp [hok])]
      have HKD := Lib.hid hk
      clear h hw hm
      have HE : RowKit.Hid (x.nullS = x.fail.consume) := by show _ = _; unfold Lx.nullS; rw [if_pos (by simp [hok])]
      go_enter Tryz.func49, Tryz.ntmps49
      go_wp2_with (first | (go_at_call 47; refine (ok_any H.out).mono ?_; rintro e w' ⟨rfl, rfl⟩) | (go_at_call 103; refine (errInvalid_any H.out HM.out _ (by decide)).mono ?_; rintro e w4 ⟨rfl, ve4, g5, g6⟩; have G5 := Lib.hid g5; have G6 := Lib.hid g6; clear g5 g6) | (go_at_call 104; refine (consume_any G5.out).mono ?_; rintro e w3 ⟨rfl, g3, g4⟩))
      go_end0
      rw [HE.out]
      exact ⟨rfl, _, _, g3, ((Kept.refl b w).trans G6.out).trans g4⟩
    | true =>
      rw [peek_new (by simp [hok, hk])]
      have HM2 : RowKit.Hid (x.fetch.multi = false) := fetch_same.multi.trans hm
      clear h hw hk hm
      cases hok2 : x.fetch.ok with
      | false =>
        have HE : RowKit.Hid (x.fetch.nullS = x.fetch.fail.consume) := by show _ = _; unfold Lx.nullS; rw [if_pos (by simp [hok2])]
        go_enter Tryz.func49, Tryz.ntmps49
        go_wp2_with (first | (go_at_call 47; with_reducible refine (ok_any G1.out).mono ?_; rintro e w2 ⟨rfl, rfl⟩) | (go_at_call 47; refine (ok_any H.out).mono ?_; rintro e w' ⟨rfl, rfl⟩) | (go_at_call 86; refine (fetchToken_any H.out HW.out).mono ?_; rintro e w1 ⟨rfl, vt1, ve1, g1, g2⟩; have z3 := g1.c3; have G1 := Lib.hid g1; have G2 := Lib.hid g2; clear g1 g2) | (go_at_call 103; refine (errInvalid_any G1.out HM2.out _ (by decide)).mono ?_; rintro e w4 ⟨rfl, ve4, g5, g6⟩; have G5 := Lib.hid g5; have G6 := Lib.hid g6; clear g5 g6) | (go_at_call 104; refine (consume_any G5.out).mono ?_; rintro e w3 ⟨rfl, g3, g4⟩))
        go_end0
        rw [HE.out]
        exact ⟨rfl, _, _, g3, (G2.out.trans G6.out).trans g4⟩
      | true =>
        by_cases hd : x.fetch.kind = 5
        · have HE : RowKit.Hid (x.fetch.nullS = x.fetch.consume) := by show _ = _; unfold Lx.nullS; rw [if_neg (by simp [hok2, hd])]
          have d1 : ((x.fetch.kind : Int) == 5) = true := by simp; omega
          have d2 : ((x.fetch.kind : Int) != 5) = false := by simp; omega
          clear hd
          go_enter Tryz.func49, Tryz.ntmps49
          go_wp2_with (first | (go_at_call 47; with_reducible refine (ok_any G1.out).mono ?_; rintro e w2 ⟨rfl, rfl⟩) | (go_at_call 47; refine (ok_any H.out).mono ?_; rintro e w' ⟨rfl, rfl⟩) | (go_at_call 86; refine (fetchToken_any H.out HW.out).mono ?_; rintro e w1 ⟨rfl, vt1, ve1, g1, g2⟩; have z3 := g1.c3; have G1 := Lib.hid g1; have G2 := Lib.hid g2; clear g1 g2) | (go_at_call 104; refine (consume_any G1.out).mono ?_; rintro e w3 ⟨rfl, g3, g4⟩))
          go_end0
          rw [HE.out]
          exact ⟨rfl, _, _, g3, G2.out.trans g4⟩
        · have d1 : ((x.fetch.kind : Int) == 5) = false := beq_eq_false_iff_ne.2 (by omega)
          have d2 : ((x.fetch.kind : Int) != 5) = true := bne_iff_ne.2 (by omega)
          have HE : RowKit.Hid (x.fetch.nullS = x.fetch.fail.consume) := by show _ = _; unfold Lx.nullS; rw [if_pos (by simp [hok2, hd])]
          clear hd
          go_enter Tryz.func49, Tryz.ntmps49
          go_wp2_with (first | (go_at_call 47; with_reducible refine (ok_any G1.out).mono ?_; rintro e w2 ⟨rfl, rfl⟩) | (go_at_call 47; refine (ok_any H.out).mono ?_; rintro e w' ⟨rfl, rfl⟩) | (go_at_call 86; refine (fetchToken_any H.out HW.out).mono ?_; rintro e w1 ⟨rfl, vt1, ve1, g1, g2⟩; have z3 := g1.c3; have G1 := Lib.hid g1; have G2 := Lib.hid g2; clear g1 g2) | (go_at_call 103; refine (errInvalid_any G1.out HM2.out _ (by decide)).mono ?_; rintro e w4 ⟨rfl, ve4, g5, g6⟩; have G5 := Lib.hid g5; have G6 := Lib.hid g6; clear g5 g6) | (go_at_call 104; refine (consume_any G5.out).mono ?_; rintro e w3 ⟨rfl, g3, g4⟩))
          go_end0
          rw [HE.out]
          exact ⟨rfl, _, _, g3, (G2.out.trans G6.out).trans g4⟩

set_option maxHeartbeats 4000000 in
set_option maxRecDepth 100000 in
theorem bool_any (h : LexAt w b ae ao x vd vt ve vm) (hw : x.Wf) (hm : x.multi = false) :
    Calls Tryz.prog 50 #[.pointer (some ⟨b, 0, none⟩)] w fun e w' => e = .returned (.bool x.boolV) ∧ NumDone w b ae ao x.bool vd vm w' := by
  unfold Lx.bool Lx.boolV
  have H := Lib.hid h
  have HW := Lib.hid hw
  by_cases hk : x.kind = 0
  case neg =>
    rw [peek_kept (by simp [hk])]
    have n1 : ((x.kind : Int) == 0) = false := beq_eq_false_iff_ne.2 (by omega)
    have HM := Lib.hid hm
    have HKD : RowKit.Hid (x.kind ≠ 0) := hk
    have c3 := h.c3
    have c4 := h.c4
    clear h hw hk hm
    cases hok2 : x.ok with
    | false =>
      have HE : RowKit.Hid (x.boolS = x.fail) := by show _ = _; unfold Lx.boolS; rw [if_pos (by simp [hok2])]
      have HV : RowKit.Hid (x.boolR = false) := by show _ = _; unfold Lx.boolR; rw [if_pos (by simp [hok2])]
      go_enter Tryz.func50, Tryz.ntmps50
      go_wp2_with (first | (go_at_call 47; refine (ok_any H.out).mono ?_; rintro e w' ⟨rfl, rfl⟩) | (go_at_call 103; refine (errInvalid_any H.out HM.out _ (by decide)).mono ?_; rintro e w4 ⟨rfl, ve4, g5, g6⟩))
      go_ret
      rw [HE.out, HV.out]
      exact ⟨rfl, _, ve4, g5, (Kept.refl b w).trans g6⟩
    | true =>
      by_cases hd : x.kind = 4
      · have HE : RowKit.Hid (x.boolS = x.consume) := by show _ = _; unfold Lx.boolS; rw [if_neg (by simp [hok2, hd])]
        have HV : RowKit.Hid (x.boolR = x.bv) := by show _ = _; unfold Lx.boolR; rw [if_neg (by simp [hok2, hd])]
        have d1 : ((x.kind : Int) == 4) = true := by simp; omega
        have d2 : ((x.kind : Int) != 4) = false := by simp; omega
        clear hd
        go_enter Tryz.func50, Tryz.ntmps50
        go_wp2_with (first | (go_at_call 47; refine (ok_any H.out).mono ?_; rintro e w' ⟨rfl, rfl⟩) | (go_at_call 104; refine (consume_any H.out).mono ?_; rintro e w3 ⟨rfl, g3, g4⟩))
        go_ret
        rw [HE.out, HV.out]
        exact ⟨rfl, _, _, g3, (Kept.refl b w).trans g4⟩
      · have d1 : ((x.kind : Int) == 4) = false := beq_eq_false_iff_ne.2 (by omega)
        have d2 : ((x.kind : Int) != 4) = true := bne_iff_ne.2 (by omega)
        have HE : RowKit.Hid (x.boolS = x.fail) := by show _ = _; unfold Lx.boolS; rw [if_pos (by simp [hok2, hd])]
        have HV : RowKit.Hid (x.boolR = false) := by show _ = _; unfold Lx.boolR; rw [if_pos (by simp [hok2, hd])]
        clear hd
        go_enter Tryz.func50, Tryz.ntmps50
        go_wp2_with (first | (go_at_call 47; refine (ok_any H.out).mono ?_; rintro e w' ⟨rfl, rfl⟩) | (go_at_call 103; refine (errInvalid_any H.out HM.out _ (by decide)).mono ?_; rintro e w4 ⟨rfl, ve4, g5, g6⟩))
        go_ret
        rw [HE.out, HV.out]
        exact ⟨rfl, _, ve4, g5, (Kept.refl b w).trans g6⟩
  case pos =>
    have c3 := h.c3
    rw [hk] at c3
    have c4 := h.c4
    have HM := Lib.hid hm
    cases hok : x.ok with
    | false =>
      rw [peek_kept (by simp [hok])]
      have HKD := Lib.hid hk
      clear h hw hm
      have HE : RowKit.Hid (x.boolS = x.fail) := by show _ = _; unfold Lx.boolS; rw [if_pos (by simp [hok])]
      have HV : RowKit.Hid (x.boolR = false) := by show _ = _; unfold Lx.boolR; rw [if_pos (by simp [hok])]
      go_enter Tryz.func50, Tryz.ntmps50
      go_wp2_with (first | (go_at_call 47; refine (ok_any H.out).mono ?_; rintro e w' ⟨rfl, rfl⟩) | (go_at_call 103; refine (errInvalid_any H.out HM.out _ (by decide)).mono ?_; rintro e w4 ⟨rfl, ve4, g5, g6⟩))
      go_ret
      rw [HE.out, HV.out]
      exact ⟨rfl, _, ve4, g5, (Kept.refl b w).trans g6⟩
    | true =>
      rw [peek_new (by simp [hok, hk])]
      have HM2 : RowKit.Hid (x.fetch.multi = false) := fetch_same.multi.trans hm
      clear h hw hk hm c4
      cases hok2 : x.fetch.ok with
      | false =>
        have HE : RowKit.Hid (x.fetch.boolS = x.fetch.fail) := by show _ = _; unfold Lx.boolS; rw [if_pos (by simp [hok2])]
        have HV : RowKit.Hid (x.fetch.boolR = false) := by show _ = _; unfold Lx.boolR; rw [if_pos (by simp [hok2])]
        go_enter Tryz.func50, Tryz.ntmps50
        go_wp2_with (first | (go_at_call 47; with_reducible refine (ok_any G1.out).mono ?_; rintro e w2 ⟨rfl, rfl⟩) | (go_at_call 47; refine (ok_any H.out).mono ?_; rintro e w' ⟨rfl, rfl⟩) | (go_at_call 86; refine (fetchToken_any H.out HW.out).mono ?_; rintro e w1 ⟨rfl, vt1, ve1, g1, g2⟩; have z3 := g1.c3; have z4 := g1.c4; have G1 := Lib.hid g1; have G2 := Lib.hid g2; clear g1 g2) | (go_at_call 103; refine (errInvalid_any G1.out HM2.out _ (by decide)).mono ?_; rintro e w4 ⟨rfl, ve4, g5, g6⟩))
        go_ret
        rw [HE.out, HV.out]
        exact ⟨rfl, _, ve4, g5, G2.out.trans g6⟩
      | true =>
        by_cases hd : x.fetch.kind = 4
        · have HE : RowKit.Hid (x.fetch.boolS = x.fetch.consume) := by show _ = _; unfold Lx.boolS; rw [if_neg (by simp [hok2, hd])]
          have HV : RowKit.Hid (x.fetch.boolR = x.fetch.bv) := by show _ = _; unfold Lx.boolR; rw [if_neg (by simp [hok2, hd])]
          have d1 : ((x.fetch.kind : Int) == 4) = true := by simp; omega
          have d2 : ((x.fetch.kind : Int) != 4) = false := by simp; omega
          clear hd
          go_enter Tryz.func50, Tryz.ntmps50
          go_wp2_with (first | (go_at_call 47; with_reducible refine (ok_any G1.out).mono ?_; rintro e w2 ⟨rfl, rfl⟩) | (go_at_call 47; refine (ok_any H.out).mono ?_; rintro e w' ⟨rfl, rfl⟩) | (go_at_call 86; refine (fetchToken_any H.out HW.out).mono ?_; rintro e w1 ⟨rfl, vt1, ve1, g1, g2⟩; have z3 := g1.c3; have z4 := g1.c4; have G1 := Lib.hid g1; have G2 := Lib.hid g2; clear g1 g2) | (go_at_call 104; refine (consume_any G1.out).mono ?_; rintro e w3 ⟨rfl, g3, g4⟩))
          go_ret
          rw [HE.out, HV.out]
          exact ⟨rfl, _, _, g3, G2.out.trans g4⟩
        · have d1 : ((x.fetch.kind : Int) == 4) = false := beq_eq_false_iff_ne.2 (by omega)
          have d2 : ((x.fetch.kind : Int) != 4) = true := bne_iff_ne.2 (by omega)
          have HE : RowKit.Hid (x.fetch.boolS = x.fetch.fail) := by show _ = _; unfold Lx.boolS; rw [if_pos (by simp [hok2, hd])]
          have HV : RowKit.Hid (x.fetch.boolR = false) := by show _ = _; unfold Lx.boolR; rw [if_pos (by simp [hok2, hd])]
          clear hd
          go_enter Tryz.func50, Tryz.ntmps50
          go_wp2_with (first | (go_at_call 47; with_reducible refine (ok_any G1.out).mono ?_; rintro e w2 ⟨rfl, rfl⟩) | (go_at_call 47; refine (ok_any H.out).mono ?_; rintro e w' ⟨rfl, rfl⟩) | (go_at_call 86; refine (fetchToken_any H.out HW.out).mono ?_; rintro e w1 ⟨rfl, vt1, ve1, g1, g2⟩; have z3 := g1.c3; have z4 := g1.c4; have G1 := Lib.hid g1; have G2 := Lib.hid g2; clear g1 g2) | (go_at_call 103; refine (errInvalid_any G1.out HM2.out _ (by decide)).mono ?_; rintro e w4 ⟨rfl, ve4, g5, g6⟩))
          go_ret
          rw [HE.out, HV.out]
          exact ⟨rfl, _, ve4, g5, G2.out.trans g6⟩

set_option maxHeartbeats 4000000 in
set_option maxRecDepth 100000 in
theorem current_any (h : LexAt w b ae ao x vd vt ve vm) (hw : x.Wf) (hm : x.multi = false) :
    Calls Tryz.prog 46 #[.pointer (some ⟨b, 0, none⟩)] w fun e w' => e = .returned (.int .u8 x.current) ∧ NumDone w b ae ao x.peek vd vm w' := by
  unfold Lx.current
  have H := Lib.hid h
  have HW := Lib.hid hw
  by_cases hk : x.kind = 0
  case neg =>
    rw [peek_kept (by simp [hk])]
    have n1 : ((x.kind : Int) == 0) = false := beq_eq_false_iff_ne.2 (by omega)
    have HM := Lib.hid hm
    have HKD : RowKit.Hid (x.kind ≠ 0) := hk
    have c3 := h.c3
    clear h hw hk hm
    cases hok2 : x.ok with
    | false =>
      have HE : RowKit.Hid (x.currentR = 0) := by show _ = _; unfold Lx.currentR; rw [hok2]; rfl
      go_enter Tryz.func46, Tryz.ntmps46
      go_wp2_with (first | (go_at_call 47; refine (ok_any H.out).mono ?_; rintro e w' ⟨rfl, rfl⟩))
      go_ret
      rw [HE.out]
      exact ⟨rfl, _, _, H.out, (Kept.refl b w)⟩
    | true =>
      have HE : RowKit.Hid (x.currentR = x.kind) := by show _ = _; unfold Lx.currentR; rw [hok2]; rfl
      go_enter Tryz.func46, Tryz.ntmps46
      go_wp2_with (first | (go_at_call 47; refine (ok_any H.out).mono ?_; rintro e w' ⟨rfl, rfl⟩))
      go_ret
      rw [HE.out]
      exact ⟨rfl, _, _, H.out, (Kept.refl b w)⟩
  case pos =>
    have c3 := h.c3
    rw [hk] at c3
    have HM := Lib.hid hm
    cases hok : x.ok with
    | false =>
      rw [peek_kept (by simp [hok])]
      have HKD := Lib.hid hk
      clear h hw hm
      have HE : RowKit.Hid (x.currentR = 0) := by show _ = _; unfold Lx.currentR; rw [hok]; rfl
      go_enter Tryz.func46, Tryz.ntmps46
      go_wp2_with (first | (go_at_call 47; refine (ok_any H.out).mono ?_; rintro e w' ⟨rfl, rfl⟩))
      go_ret
      rw [HE.out]
      exact ⟨rfl, _, _, H.out, (Kept.refl b w)⟩
    | true =>
      rw [peek_new (by simp [hok, hk])]
      have HM2 : RowKit.Hid (x.fetch.multi = false) := fetch_same.multi.trans hm
      clear h hw hk hm
      cases hok2 : x.fetch.ok with
      | false =>
        have HE : RowKit.Hid (x.fetch.currentR = 0) := by show _ = _; unfold Lx.currentR; rw [hok2]; rfl
        go_enter Tryz.func46, Tryz.ntmps46
        go_wp2_with (first | (go_at_call 47; with_reducible refine (ok_any G1.out).mono ?_; rintro e w2 ⟨rfl, rfl⟩) | (go_at_call 47; refine (ok_any H.out).mono ?_; rintro e w' ⟨rfl, rfl⟩) | (go_at_call 86; refine (fetchToken_any H.out HW.out).mono ?_; rintro e w1 ⟨rfl, vt1, ve1, g1, g2⟩; have z3 := g1.c3; have G1 := Lib.hid g1; have G2 := Lib.hid g2; clear g1 g2))
        go_ret
        rw [HE.out]
        exact ⟨rfl, _, _, G1.out, G2.out⟩
      | true =>
        have HE : RowKit.Hid (x.fetch.currentR = x.fetch.kind) := by show _ = _; unfold Lx.currentR; rw [hok2]; rfl
        go_enter Tryz.func46, Tryz.ntmps46
        go_wp2_with (first | (go_at_call 47; with_reducible refine (ok_any G1.out).mono ?_; rintro e w2 ⟨rfl, rfl⟩) | (go_at_call 47; refine (ok_any H.out).mono ?_; rintro e w' ⟨rfl, rfl⟩) | (go_at_call 86; refine (fetchToken_any H.out HW.out).mono ?_; rintro e w1 ⟨rfl, vt1, ve1, g1, g2⟩; have z3 := g1.c3; have G1 := Lib.hid g1; have G2 := Lib.hid g2; clear g1 g2))
        go_ret
        rw [HE.out]
        exact ⟨rfl, _, _, G1.out, G2.out⟩
end
end Go.Proofs.YtaecbclonmhbcaaGreatDoor

/- addNonfatalError of a lexer with one error: the error is set. -/
namespace Go.Proofs.YtaecbclonmhbcaaGreatDoor
open Go.RowKit

set_option maxHeartbeats 2000000 in
set_option maxRecDepth 100000 in
theorem addNonfatal_one {w : World} {b : Nat} {ae : Sur} {ao : Addr} {x : Lx} {vd vt ve vm : Value} (h : LexAt w b ae ao x vd vt ve vm) (hm : x.multi = false) (p : Option Addr) :
    Calls Tryz.prog 108 #[.pointer (some ⟨b, 0, none⟩), .pointer p] w fun e w' => e = .returned (.tuple #[]) ∧ w' = w.setCell ⟨b, 11, none⟩ (.iface 60 (.pointer p)) := by
  have c10 := h.c10
  rw [hm] at c10
  have c11 := h.c11
  have z := h.free 11
  clear h
  go_enter Tryz.func108, Tryz.ntmps108
  go_wp2
  first
    | exact bodyPost_end (results_none rfl _ _ _) rfl ⟨rfl, rfl⟩
    | exact bodyPost_ret (results_none rfl _ _ _) rfl ⟨rfl, rfl⟩
end Go.Proofs.YtaecbclonmhbcaaGreatDoor

/- impl.mark and impl.text, the calls that the claims make. -/
namespace Go.Proofs.YtaecbclonmhbcaaGreatDoor
open Go.RowKit

/-- One block more that the lexer has no part in. -/
def Sur.hold (s : Sur) (j : Nat) : Sur := { s with held := fun k => s.held k ∨ k = j }

theorem Sur.hold_self (s : Sur) (j : Nat) : (s.hold j).held j := Or.inr rfl

section
variable {w w' : World} {b : Nat} {ae : Sur} {ao : Addr} {x : Lx} {vd vt ve vm : Value}

theorem grownBy_setCell (w : World) (k i : Nat) (v : Value) : w.grownBy (w.setCell ⟨k, i, none⟩ v) (some k) :=
  ⟨rfl, rfl, rfl, by simp, fun j _ hj => heap_setCell_other i v fun e => hj (by rw [e])⟩
theorem LexAt.setHeld (h : LexAt w b ae ao x vd vt ve vm) {k : Nat} (hk : ae.held k) (hb : b < k) (i : Nat) (v : Value) : LexAt (w.setCell ⟨k, i, none⟩ v) b ae ao x vd vt ve vm := by
  have h2 := h.b2
  refine h.grown (grownBy_setCell w k i v) ?_
  rintro j e
  obtain rfl := Option.some.inj e
  exact ⟨hk, by omega, by omega⟩

/-- A new block is held. -/
theorem LexAt.hold (h : LexAt w b ae ao x vd vt ve vm) (o : Obj) : LexAt (w.alloc o) b (ae.hold w.heap.size) ao x vd vt ve vm := by
  have hg := World.grownBy_alloc w o none
  have hA : ∀ k, k < w.heap.size → (ae.hold w.heap.size).off b k → ae.off b k := by
    rintro k hk (e | e | e)
    · exact .inl e
    · exact .inr e
    · omega
  refine ⟨?_, (h.data.other hA).grown hg (by simp), (h.tok.other hA).grown hg (by simp), ?_, ⟨(h.env.grown hg (by simp) (by simp)).eof, (h.env.grown hg (by simp) (by simp)).other, h.env.ne⟩, h.b2, ?_⟩
  · rw [hg.block b h.lt (by simp)]; exact h.heap
  · have he := h.err
    cases hx : x.err <;> rw [hx] at he <;> simp only [ErrAt] at he ⊢ <;> try exact he
    obtain ⟨k, s, t, hv, hn, hh⟩ := he
    exact ⟨k, s, t, hv, fun a => hn (hA k (lt_heap hh) a), by rw [hg.block k (lt_heap hh) (by simp)]; exact hh⟩
  · rintro k (a | rfl)
    · have := h.held k a; have := hg.size; omega
    · simp
/-- .. and is let go. -/
theorem LexAt.less {j : Nat} (h : LexAt w b (ae.hold j) ao x vd vt ve vm) : LexAt w b ae ao x vd vt ve vm := by
  have hA : ∀ k, ae.off b k → (ae.hold j).off b k := by
    rintro k (e | e)
    · exact .inl e
    · exact .inr (.inl e)
  refine ⟨h.heap, h.data.other fun k _ => hA k, h.tok.other fun k _ => hA k, ?_, ⟨h.env.eof, h.env.other, h.env.ne⟩, h.b2, fun k a => h.held k (.inl a)⟩
  have he := h.err
  cases hx : x.err <;> rw [hx] at he <;> simp only [ErrAt] at he ⊢ <;> try exact he
  obtain ⟨k, s, t, hv, hn, hh⟩ := he
  exact ⟨k, s, t, hv, fun a => hn (hA k a), hh⟩
theorem Kept.setNew {b : Nat} {u v : World} (h : Kept b u v) {k : Nat} (hk : u.heap.size ≤ k) (i : Nat) (x : Value) : Kept b u (v.setCell ⟨k, i, none⟩ x) :=
  ⟨h.os, h.tape, h.output, Nat.le_trans h.size (by simp), fun j hj hn => (heap_setCell_other i x (by omega)).trans (h.block j hj hn)⟩
theorem Kept.of_alloc {b : Nat} {u v : World} {o : Obj} (h : Kept b (u.alloc o) v) : Kept b u v := ((Kept.refl b u).alloc o).trans h

/-- A call's value. -/
def callV (op n : Int) (s : Value) : Value := .agg #[.int .i64 op, .int .i64 n, s]
/-- What a call tells. -/
def gotV (n : Int) (s : Value) (k p : Int) : Value := .agg #[.int .i64 n, s, .int .i64 k, .int .i64 p]

theorem got_heap {w w1 : World} {b : Nat} {o : Obj} {c : Array Value} (h : Kept b ((w.alloc o).alloc (.cells c 30)) w1) (hb : b < w.heap.size) : w1.heap[w.heap.size + 1]? = some (.cells c 30 (0, 0)) := by
  have hs : (w.alloc o).heap.size = w.heap.size + 1 := by simp
  have := h.heap (heap_alloc_new (w.alloc o) (.cells c 30)) (by omega)
  rwa [hs] at this

def MarkDone (w : World) (b : Nat) (ae : Sur) (ao : Addr) (x' : Lx) (vd vm : Value) (n : Int) (e : Ending) (w' : World) : Prop :=
  e = .returned (gotV n (.slice none 0 0) 0 0) ∧ NumDone w b ae ao x' vd vm w'


set_option maxHeartbeats 2000000 in
set_option maxRecDepth 100000 in
theorem mark_delim (h : LexAt w b ae ao x vd vt ve vm) (hw : x.Wf) (hm : x.multi = false) (n : Int) (hn : 0 ≤ n ∧ n ≤ 255) (p : Option Addr) (sn sc : Nat) :
    Calls Tryz.prog 40 #[.pointer (some ⟨b, 0, none⟩), callV 1 n (.slice p sn sc)] w fun e w' => MarkDone w b ae ao (x.delimP n) vd vm (0) e w' := by
  have n1 : IntKind.u8.wrap n = n := IntWalk.u8_in _ hn
  have H := Lib.hid h
  have hbl := h.lt
  clear h
  unfold callV
  go_enter Tryz.func40, Tryz.ntmps40
  go_wp2_with (first
    | (go_at_call 87; refine (delim_any ((H.out.alloc _).hold _) hw hm n).mono ?_; rintro e w1 ⟨rfl, vt1, ve1, g1, g2⟩; have hG := got_heap g2 hbl; have y0 := cell_of_heap hG 0 rfl; have y1 := cell_of_heap hG 1 rfl; have y2 := cell_of_heap hG 2 rfl; have y3 := cell_of_heap hG 3 rfl; have z := free_of_heap hG; have z0 := z 0; have z1 := z 1; have z2 := z 2; have z3 := z 3; have G1 := Lib.hid g1; have G2 := Lib.hid g2; have GH := Lib.hid hG; clear g1 g2 z hG)
    | (go_at_call 62; refine (one_any _ _).mono ?_; rintro e w2 ⟨rfl, rfl⟩))
  (try simp only [Exit.inBlock, Exit.then])
  refine bodyPost_ret (v := gotV (0) (.slice none 0 0) 0 0) ?_ rfl ⟨rfl, vt1, ve1, ?_, ?_⟩
  · exact results_cell_row rfl _ _ (w.heap.size + 1) 30 _ (0, 0) _ rfl (heap_setCell (heap_setCell (heap_setCell (heap_setCell GH.out 0 _) 1 _) 2 _) 3 _) Tryz.underlying30 rfl (by kernel_rfl)
  · refine LexAt.less (j := w.heap.size + 1) ?_
    have hs : ∀ o : Obj, (w.alloc o).heap.size = w.heap.size + 1 := fun o => by simp
    have G := G1.out
    rw [hs] at G
    repeat refine LexAt.setHeld ?_ (Sur.hold_self _ _) (by omega) _ _
    exact G
  · repeat refine Kept.setNew ?_ (by omega) _ _
    exact Kept.of_alloc (Kept.of_alloc G2.out)

set_option maxHeartbeats 2000000 in
set_option maxRecDepth 100000 in
theorem mark_isDelim (h : LexAt w b ae ao x vd vt ve vm) (hw : x.Wf) (hm : x.multi = false) (n : Int) (hn : 0 ≤ n ∧ n ≤ 255) (p : Option Addr) (sn sc : Nat) :
    Calls Tryz.prog 40 #[.pointer (some ⟨b, 0, none⟩), callV 2 n (.slice p sn sc)] w fun e w' => MarkDone w b ae ao (x.peek) vd vm (b01 (x.isDelim n)) e w' := by
  have n1 : IntKind.u8.wrap n = n := IntWalk.u8_in _ hn
  have H := Lib.hid h
  have hbl := h.lt
  clear h
  unfold callV
  go_enter Tryz.func40, Tryz.ntmps40
  go_wp2_with (first
    | (go_at_call 54; refine (isDelim_any ((H.out.alloc _).hold _) hw hm n).mono ?_; rintro e w1 ⟨rfl, vt1, ve1, g1, g2⟩; have hG := got_heap g2 hbl; have y0 := cell_of_heap hG 0 rfl; have y1 := cell_of_heap hG 1 rfl; have y2 := cell_of_heap hG 2 rfl; have y3 := cell_of_heap hG 3 rfl; have z := free_of_heap hG; have z0 := z 0; have z1 := z 1; have z2 := z 2; have z3 := z 3; have G1 := Lib.hid g1; have G2 := Lib.hid g2; have GH := Lib.hid hG; clear g1 g2 z hG)
    | (go_at_call 62; refine (one_any _ _).mono ?_; rintro e w2 ⟨rfl, rfl⟩))
  (try simp only [Exit.inBlock, Exit.then])
  refine bodyPost_ret (v := gotV (b01 (x.isDelim n)) (.slice none 0 0) 0 0) ?_ rfl ⟨rfl, vt1, ve1, ?_, ?_⟩
  · exact results_cell_row rfl _ _ (w.heap.size + 1) 30 _ (0, 0) _ rfl (heap_setCell (heap_setCell (heap_setCell (heap_setCell (heap_setCell GH.out 0 _) 0 _) 1 _) 2 _) 3 _) Tryz.underlying30 rfl (by kernel_rfl)
  · refine LexAt.less (j := w.heap.size + 1) ?_
    have hs : ∀ o : Obj, (w.alloc o).heap.size = w.heap.size + 1 := fun o => by simp
    have G := G1.out
    rw [hs] at G
    repeat refine LexAt.setHeld ?_ (Sur.hold_self _ _) (by omega) _ _
    exact G
  · repeat refine Kept.setNew ?_ (by omega) _ _
    exact Kept.of_alloc (Kept.of_alloc G2.out)

set_option maxHeartbeats 2000000 in
set_option maxRecDepth 100000 in
theorem mark_null (h : LexAt w b ae ao x vd vt ve vm) (hw : x.Wf) (hm : x.multi = false) (n : Int) (p : Option Addr) (sn sc : Nat) :
    Calls Tryz.prog 40 #[.pointer (some ⟨b, 0, none⟩), callV 3 n (.slice p sn sc)] w fun e w' => MarkDone w b ae ao (x.null) vd vm (0) e w' := by
  have H := Lib.hid h
  have hbl := h.lt
  clear h
  unfold callV
  go_enter Tryz.func40, Tryz.ntmps40
  go_wp2_with (first
    | (go_at_call 49; refine (null_any ((H.out.alloc _).hold _) hw hm).mono ?_; rintro e w1 ⟨rfl, vt1, ve1, g1, g2⟩; have hG := got_heap g2 hbl; have y0 := cell_of_heap hG 0 rfl; have y1 := cell_of_heap hG 1 rfl; have y2 := cell_of_heap hG 2 rfl; have y3 := cell_of_heap hG 3 rfl; have z := free_of_heap hG; have z0 := z 0; have z1 := z 1; have z2 := z 2; have z3 := z 3; have G1 := Lib.hid g1; have G2 := Lib.hid g2; have GH := Lib.hid hG; clear g1 g2 z hG)
    | (go_at_call 62; refine (one_any _ _).mono ?_; rintro e w2 ⟨rfl, rfl⟩))
  (try simp only [Exit.inBlock, Exit.then])
  refine bodyPost_ret (v := gotV (0) (.slice none 0 0) 0 0) ?_ rfl ⟨rfl, vt1, ve1, ?_, ?_⟩
  · exact results_cell_row rfl _ _ (w.heap.size + 1) 30 _ (0, 0) _ rfl (heap_setCell (heap_setCell (heap_setCell (heap_setCell GH.out 0 _) 1 _) 2 _) 3 _) Tryz.underlying30 rfl (by kernel_rfl)
  · refine LexAt.less (j := w.heap.size + 1) ?_
    have hs : ∀ o : Obj, (w.alloc o).heap.size = w.heap.size + 1 := fun o => by simp
    have G := G1.out
    rw [hs] at G
    repeat refine LexAt.setHeld ?_ (Sur.hold_self _ _) (by omega) _ _
    exact G
  · repeat refine Kept.setNew ?_ (by omega) _ _
    exact Kept.of_alloc (Kept.of_alloc G2.out)

set_option maxHeartbeats 2000000 in
set_option maxRecDepth 100000 in
theorem mark_isNull (h : LexAt w b ae ao x vd vt ve vm) (hw : x.Wf) (hm : x.multi = false) (n : Int) (p : Option Addr) (sn sc : Nat) :
    Calls Tryz.prog 40 #[.pointer (some ⟨b, 0, none⟩), callV 4 n (.slice p sn sc)] w fun e w' => MarkDone w b ae ao (x.peek) vd vm (b01 x.isNull) e w' := by
  have H := Lib.hid h
  have hbl := h.lt
  clear h
  unfold callV
  go_enter Tryz.func40, Tryz.ntmps40
  go_wp2_with (first
    | (go_at_call 88; refine (isNull_any ((H.out.alloc _).hold _) hw hm).mono ?_; rintro e w1 ⟨rfl, vt1, ve1, g1, g2⟩; have hG := got_heap g2 hbl; have y0 := cell_of_heap hG 0 rfl; have y1 := cell_of_heap hG 1 rfl; have y2 := cell_of_heap hG 2 rfl; have y3 := cell_of_heap hG 3 rfl; have z := free_of_heap hG; have z0 := z 0; have z1 := z 1; have z2 := z 2; have z3 := z 3; have G1 := Lib.hid g1; have G2 := Lib.hid g2; have GH := Lib.hid hG; clear g1 g2 z hG)
    | (go_at_call 62; refine (one_any _ _).mono ?_; rintro e w2 ⟨rfl, rfl⟩))
  (try simp only [Exit.inBlock, Exit.then])
  refine bodyPost_ret (v := gotV (b01 x.isNull) (.slice none 0 0) 0 0) ?_ rfl ⟨rfl, vt1, ve1, ?_, ?_⟩
  · exact results_cell_row rfl _ _ (w.heap.size + 1) 30 _ (0, 0) _ rfl (heap_setCell (heap_setCell (heap_setCell (heap_setCell (heap_setCell GH.out 0 _) 0 _) 1 _) 2 _) 3 _) Tryz.underlying30 rfl (by kernel_rfl)
  · refine LexAt.less (j := w.heap.size + 1) ?_
    have hs : ∀ o : Obj, (w.alloc o).heap.size = w.heap.size + 1 := fun o => by simp
    have G := G1.out
    rw [hs] at G
    repeat refine LexAt.setHeld ?_ (Sur.hold_self _ _) (by omega) _ _
    exact G
  · repeat refine Kept.setNew ?_ (by omega) _ _
    exact Kept.of_alloc (Kept.of_alloc G2.out)

set_option maxHeartbeats 2000000 in
set_option maxRecDepth 100000 in
theorem mark_current (h : LexAt w b ae ao x vd vt ve vm) (hw : x.Wf) (hm : x.multi = false) (n : Int) (hcr : x.current ≤ 255) (p : Option Addr) (sn sc : Nat) :
    Calls Tryz.prog 40 #[.pointer (some ⟨b, 0, none⟩), callV 42 n (.slice p sn sc)] w fun e w' => MarkDone w b ae ao (x.peek) vd vm ((x.current : Int)) e w' := by
  have n1 : IntKind.i64.wrap (x.current : Int) = (x.current : Int) := IntWalk.i64_in _ (by omega)
  clear hcr
  have H := Lib.hid h
  have hbl := h.lt
  clear h
  unfold callV
  go_enter Tryz.func40, Tryz.ntmps40
  go_wp2_with (first
    | (go_at_call 46; refine (current_any ((H.out.alloc _).hold _) hw hm).mono ?_; rintro e w1 ⟨rfl, vt1, ve1, g1, g2⟩; have hG := got_heap g2 hbl; have y0 := cell_of_heap hG 0 rfl; have y1 := cell_of_heap hG 1 rfl; have y2 := cell_of_heap hG 2 rfl; have y3 := cell_of_heap hG 3 rfl; have z := free_of_heap hG; have z0 := z 0; have z1 := z 1; have z2 := z 2; have z3 := z 3; have G1 := Lib.hid g1; have G2 := Lib.hid g2; have GH := Lib.hid hG; clear g1 g2 z hG)
    | (go_at_call 62; refine (one_any _ _).mono ?_; rintro e w2 ⟨rfl, rfl⟩))
  (try simp only [Exit.inBlock, Exit.then])
  refine bodyPost_ret (v := gotV ((x.current : Int)) (.slice none 0 0) 0 0) ?_ rfl ⟨rfl, vt1, ve1, ?_, ?_⟩
  · exact results_cell_row rfl _ _ (w.heap.size + 1) 30 _ (0, 0) _ rfl (heap_setCell (heap_setCell (heap_setCell (heap_setCell (heap_setCell GH.out 0 _) 0 _) 1 _) 2 _) 3 _) Tryz.underlying30 rfl (by kernel_rfl)
  · refine LexAt.less (j := w.heap.size + 1) ?_
    have hs : ∀ o : Obj, (w.alloc o).heap.size = w.heap.size + 1 := fun o => by simp
    have G := G1.out
    rw [hs] at G
    repeat refine LexAt.setHeld ?_ (Sur.hold_self _ _) (by omega) _ _
    exact G
  · repeat refine Kept.setNew ?_ (by omega) _ _
    exact Kept.of_alloc (Kept.of_alloc G2.out)

set_option maxHeartbeats 2000000 in
set_option maxRecDepth 100000 in
theorem text_bool (h : LexAt w b ae ao x vd vt ve vm) (hw : x.Wf) (hm : x.multi = false) (n : Int) (p : Option Addr) (sn sc : Nat) :
    Calls Tryz.prog 37 #[.pointer (some ⟨b, 0, none⟩), callV 15 n (.slice p sn sc)] w fun e w' => MarkDone w b ae ao (x.bool) vd vm (b01 x.boolV) e w' := by
  have H := Lib.hid h
  have hbl := h.lt
  clear h
  unfold callV
  go_enter Tryz.func37, Tryz.ntmps37
  go_wp2_with (first
    | (go_at_call 50; refine (bool_any ((H.out.alloc _).hold _) hw hm).mono ?_; rintro e w1 ⟨rfl, vt1, ve1, g1, g2⟩; have hG := got_heap g2 hbl; have y0 := cell_of_heap hG 0 rfl; have y1 := cell_of_heap hG 1 rfl; have y2 := cell_of_heap hG 2 rfl; have y3 := cell_of_heap hG 3 rfl; have z := free_of_heap hG; have z0 := z 0; have z1 := z 1; have z2 := z 2; have z3 := z 3; have G1 := Lib.hid g1; have G2 := Lib.hid g2; have GH := Lib.hid hG; clear g1 g2 z hG)
    | (go_at_call 62; refine (one_any _ _).mono ?_; rintro e w2 ⟨rfl, rfl⟩))
  (try simp only [Exit.inBlock, Exit.then])
  refine bodyPost_ret (v := gotV (b01 x.boolV) (.slice none 0 0) 0 0) ?_ rfl ⟨rfl, vt1, ve1, ?_, ?_⟩
  · exact results_cell_row rfl _ _ (w.heap.size + 1) 30 _ (0, 0) _ rfl (heap_setCell (heap_setCell (heap_setCell (heap_setCell (heap_setCell GH.out 0 _) 0 _) 1 _) 2 _) 3 _) Tryz.underlying30 rfl (by kernel_rfl)
  · refine LexAt.less (j := w.heap.size + 1) ?_
    have hs : ∀ o : Obj, (w.alloc o).heap.size = w.heap.size + 1 := fun o => by simp
    have G := G1.out
    rw [hs] at G
    repeat refine LexAt.setHeld ?_ (Sur.hold_self _ _) (by omega) _ _
    exact G
  · repeat refine Kept.setNew ?_ (by omega) _ _
    exact Kept.of_alloc (Kept.of_alloc G2.out)

end
end Go.Proofs.YtaecbclonmhbcaaGreatDoor
