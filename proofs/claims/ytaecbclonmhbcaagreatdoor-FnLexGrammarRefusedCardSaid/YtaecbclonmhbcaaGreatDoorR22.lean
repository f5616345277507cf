/- The methods over tokens, of a lexer with one error: IsDelim, Delim, IsNull, Null, Bool, CurrentToken. Printed by gen_tok.py. -/
import Derived.Test.YtaecbclonmhbcaaGreatDoorR21
import Derived.Test.YtaecbclonmhbcaaGreatDoorR16
set_option linter.unusedVariables false
set_option linter.unusedSimpArgs false
namespace Go.Proofs.YtaecbclonmhbcaaGreatDoor
open Go.RowKit
namespace Lx
def isDelim (x : Lx) (c : Int) : Bool := !x.peek.ok || x.peek.delim == c
def delimS (x : Lx) (c : Int) : Lx := if !x.ok || x.delim != c then x.consume.fail else x.consume
def delimP (x : Lx) (c : Int) : Lx := x.peek.delimS c
def nullS (x : Lx) : Lx := (if !x.ok || x.kind != 5 then x.fail else x).consume
def null (x : Lx) : Lx := x.peek.nullS
def boolS (x : Lx) : Lx := if !x.ok || x.kind != 4 then x.fail else x.consume
def boolR (x : Lx) : Bool := if !x.ok || x.kind != 4 then false else x.bv
def bool (x : Lx) : Lx := x.peek.boolS
def boolV (x : Lx) : Bool := x.peek.boolR
def currentR (x : Lx) : Nat := if x.ok then x.kind else 0
def current (x : Lx) : Nat := x.peek.currentR
end Lx
section
variable {w : World} {b : Nat} {ae : Sur} {ao : Addr} {x : Lx} {vd vt ve vm : Value}
theorem peek_kept (h : (x.kind == 0 && x.ok) = false) : x.peek = x := by unfold Lx.peek; rw [h]; rfl
theorem peek_new (h : (x.kind == 0 && x.ok) = true) : x.peek = x.fetch := by unfold Lx.peek; rw [h]; rfl
theorem one_byte_str {c : Int} (W : World) : ∀ dst, Tryz.prog.underlying dst = some .string →
    (convert 22 dst (.slice (some ⟨W.heap.size, 0, none⟩) 1 1)).run Tryz.prog (W.alloc (.cells #[.int .u8 c] 5)) = .ok (.string (strOfNums [c])) (W.alloc (.cells #[.int .u8 c] 5)) :=
  run_convert_bytes_arg (W.alloc (.cells #[.int .u8 c] 5)) 22 5 Tryz.underlying22 Tryz.underlying5 W.heap.size 0 1 1 [c] rfl (fun i hi => by
    obtain rfl : i = 0 := by omega
    simp)
theorem consume_same : x.Same x.consume := ⟨rfl, rfl, rfl⟩
theorem Lx.Wf.consume (h : x.Wf) : x.consume.Wf := h.as rfl rfl rfl
set_option maxHeartbeats 4000000 in
set_option maxRecDepth 100000 in
theorem isDelim_any (h : LexAt w b ae ao x vd vt ve vm) (hw : x.Wf) (hm : x.multi = false) (c : Int) :
    Calls Tryz.prog 54 #[.pointer (some ⟨b, 0, none⟩), .int .u8 c] w fun e w' => e = .returned (.bool (x.isDelim c)) ∧ NumDone w b ae ao x.peek vd vm w' := by
  unfold Lx.isDelim
  have H := Lib.hid h
  have HW := Lib.hid hw
  by_cases hk : x.kind = 0
  case neg =>
    rw [peek_kept (by simp [hk])]
    have n1 : ((x.kind : Int) == 0) = false := beq_eq_false_iff_ne.2 (by omega)
    have HM := Lib.hid hm
    have HKD : RowKit.Hid (x.kind ≠ 0) := hk
    have c3 := h.c3
    have c7 := h.c7
    clear h hw hk hm
    cases hok2 : x.ok with
    | false =>
      go_enter Tryz.func54, Tryz.ntmps54
      go_wp2_with (first | (go_at_call 47; refine (ok_any H.out).mono ?_; rintro e w' ⟨rfl, rfl⟩))
      go_ret
      exact ⟨rfl, _, _, H.out, (Kept.refl b w)⟩
    | true =>
      go_enter Tryz.func54, Tryz.ntmps54
      go_wp2_with (first | (go_at_call 47; refine (ok_any H.out).mono ?_; rintro e w' ⟨rfl, rfl⟩))
      go_ret
      exact ⟨rfl, _, _, H.out, (Kept.refl b w)⟩
  case pos =>
    have c3 := h.c3
    rw [hk] at c3
    have c7 := h.c7
    have HM := Lib.hid hm
    cases hok : x.ok with
    | false =>
      rw [peek_kept (by simp [hok])]
      have HKD := Lib.hid hk
      clear h hw hm
      rw [hok]
      go_enter Tryz.func54, Tryz.ntmps54
      go_wp2_with (first | (go_at_call 47; refine (ok_any H.out).mono ?_; rintro e w' ⟨rfl, rfl⟩))
      go_ret
      exact ⟨rfl, _, _, H.out, (Kept.refl b w)⟩
    | true =>
      rw [peek_new (by simp [hok, hk])]
      have HM2 : RowKit.Hid (x.fetch.multi = false) := fetch_same.multi.trans hm
      clear h hw hk hm c7
      cases hok2 : x.fetch.ok with
      | false =>
        go_enter Tryz.func54, Tryz.ntmps54
        go_wp2_with (first | (go_at_call 47; with_reducible refine (ok_any G1.out).mono ?_; rintro e w2 ⟨rfl, rfl⟩) | (go_at_call 47; refine (ok_any H.out).mono ?_; rintro e w' ⟨rfl, rfl⟩) | (go_at_call 86; refine (fetchToken_any H.out HW.out).mono ?_; rintro e w1 ⟨rfl, vt1, ve1, g1, g2⟩; have z7 := g1.c7; have G1 := Lib.hid g1; have G2 := Lib.hid g2; clear g1 g2))
        go_ret
        exact ⟨rfl, _, _, G1.out, G2.out⟩
      | true =>
        go_enter Tryz.func54, Tryz.ntmps54
        go_wp2_with (first | (go_at_call 47; with_reducible refine (ok_any G1.out).mono ?_; rintro e w2 ⟨rfl, rfl⟩) | (go_at_call 47; refine (ok_any H.out).mono ?_; rintro e w' ⟨rfl, rfl⟩) | (go_at_call 86; refine (fetchToken_any H.out HW.out).mono ?_; rintro e w1 ⟨rfl, vt1, ve1, g1, g2⟩; have z7 := g1.c7; have G1 := Lib.hid g1; have G2 := Lib.hid g2; clear g1 g2))
        go_ret
        exact ⟨rfl, _, _, G1.out, G2.out⟩
set_option maxHeartbeats 4000000 in
set_option maxRecDepth 100000 in
theorem delim_any (h : LexAt w b ae ao x vd vt ve vm) (hw : x.Wf) (hm : x.multi = false) (c : Int) :
    Calls Tryz.prog 87 #[.pointer (some ⟨b, 0, none⟩), .int .u8 c] w fun e w' => e = .returned (.tuple #[]) ∧ NumDone w b ae ao (x.delimP c) vd vm w' := by
  unfold Lx.delimP
  have hcv1 := one_byte_str (c := c)
  have HSZ : RowKit.Hid ((strOfNums [c]).size ≤ 1000) := by show _ ≤ _; rw [strOfNums_size]; simp
  have H := Lib.hid h
  have HW := Lib.hid hw
  by_cases hk : x.kind = 0
  case neg =>
    rw [peek_kept (by simp [hk])]
    have n1 : ((x.kind : Int) == 0) = false := beq_eq_false_iff_ne.2 (by omega)
    have HM := Lib.hid hm
    have HKD : RowKit.Hid (x.kind ≠ 0) := hk
    have c3 := h.c3
    have c7 := h.c7
    clear h hw hk hm
    cases hok2 : x.ok with
    | false =>
      have HE : RowKit.Hid (x.delimS c = x.consume.fail) := by show _ = _; unfold Lx.delimS; rw [if_pos (by simp [hok2])]
      go_enter Tryz.func87, Tryz.ntmps87
      go_wp2_with (first | (go_at_call 47; refine (ok_any H.out).mono ?_; rintro e w' ⟨rfl, rfl⟩) | (go_at_call 104; refine (consume_any H.out).mono ?_; rintro e w3 ⟨rfl, g3, g4⟩; have c3lt := g3.lt; have G3 := Lib.hid g3; have G4 := Lib.hid g4; clear g3 g4) | (go_at_call 103; refine (errInvalid_any (x := x.consume) (G3.out.alloc _) (consume_same.multi.trans HM.out) _ HSZ.out).mono ?_; rintro e w4 ⟨rfl, ve4, g5, g6⟩))
      go_end0
      rw [HE.out]
      exact ⟨rfl, _, ve4, g5, ((((Kept.refl b w).trans G4.out).alloc _).trans g6)⟩
    | true =>
      by_cases hd : x.delim = c
      · have HE : RowKit.Hid (x.delimS c = x.consume) := by show _ = _; unfold Lx.delimS; rw [if_neg (by simp [hok2, hd])]
        have d1 : (x.delim == c) = true := by simp [hd]
        have d2 : (x.delim != c) = false := by simp [hd]
        clear hd
        go_enter Tryz.func87, Tryz.ntmps87
        go_wp2_with (first | (go_at_call 47; refine (ok_any H.out).mono ?_; rintro e w' ⟨rfl, rfl⟩) | (go_at_call 104; refine (consume_any H.out).mono ?_; rintro e w3 ⟨rfl, g3, g4⟩; have c3lt := g3.lt; have G3 := Lib.hid g3; have G4 := Lib.hid g4; clear g3 g4))
        go_end0
        rw [HE.out]
        exact ⟨rfl, _, _, G3.out, (Kept.refl b w).trans G4.out⟩
      · have HE : RowKit.Hid (x.delimS c = x.consume.fail) := by show _ = _; unfold Lx.delimS; rw [if_pos (by simp [hok2, hd])]
        have d1 : (x.delim == c) = false := by simp [hd]
        have d2 : (x.delim != c) = true := by simp [hd]
        clear hd
        go_enter Tryz.func87, Tryz.ntmps87
        go_wp2_with (first | (go_at_call 47; refine (ok_any H.out).mono ?_; rintro e w' ⟨rfl, rfl⟩) | (go_at_call 104; refine (consume_any H.out).mono ?_; rintro e w3 ⟨rfl, g3, g4⟩; have c3lt := g3.lt; have G3 := Lib.hid g3; have G4 := Lib.hid g4; clear g3 g4) | (go_at_call 103; refine (errInvalid_any (x := x.consume) (G3.out.alloc _) (consume_same.multi.trans HM.out) _ HSZ.out).mono ?_; rintro e w4 ⟨rfl, ve4, g5, g6⟩))
        go_end0
        rw [HE.out]
        exact ⟨rfl, _, ve4, g5, ((((Kept.refl b w).trans G4.out).alloc _).trans g6)⟩
  case pos =>
    have c3 := h.c3
    rw [hk] at c3
    have c7 := h.c7
    have HM := Lib.hid hm
    cases hok : x.ok with
    | false =>
      rw [peek_kept (by simp [hok])]
      have HKD := Lib.hid hk
      clear h hw hm
      have HE : RowKit.Hid (x.delimS c = x.consume.fail) := by show _ = _; unfold Lx.delimS; rw [if_pos (by simp [hok])]
      go_enter Tryz.func87, Tryz.ntmps87
      go_wp2_with (first | (go_at_call 47; refine (ok_any H.out).mono ?_; rintro e w' ⟨rfl, rfl⟩) | (go_at_call 104; refine (consume_any H.out).mono ?_; rintro e w3 ⟨rfl, g3, g4⟩; have c3lt := g3.lt; have G3 := Lib.hid g3; have G4 := Lib.hid g4; clear g3 g4) | (go_at_call 103; refine (errInvalid_any (x := x.consume) (G3.out.alloc _) (consume_same.multi.trans HM.out) _ HSZ.out).mono ?_; rintro e w4 ⟨rfl, ve4, g5, g6⟩))
      go_end0
      rw [HE.out]
      exact ⟨rfl, _, ve4, g5, ((((Kept.refl b w).trans G4.out).alloc _).trans g6)⟩
    | true =>
      rw [peek_new (by simp [hok, hk])]
      have HM2 : RowKit.Hid (x.fetch.multi = false) := fetch_same.multi.trans hm
      clear h hw hk hm c7
      cases hok2 : x.fetch.ok with
      | false =>
        have HE : RowKit.Hid (x.fetch.delimS c = x.fetch.consume.fail) := by show _ = _; unfold Lx.delimS; rw [if_pos (by simp [hok2])]
        go_enter Tryz.func87, Tryz.ntmps87
        go_wp2_with (first | (go_at_call 47; with_reducible refine (ok_any G1.out).mono ?_; rintro e w2 ⟨rfl, rfl⟩) | (go_at_call 47; refine (ok_any H.out).mono ?_; rintro e w' ⟨rfl, rfl⟩) | (go_at_call 86; refine (fetchToken_any H.out HW.out).mono ?_; rintro e w1 ⟨rfl, vt1, ve1, g1, g2⟩; have z7 := g1.c7; have G1 := Lib.hid g1; have G2 := Lib.hid g2; clear g1 g2) | (go_at_call 104; refine (consume_any G1.out).mono ?_; rintro e w3 ⟨rfl, g3, g4⟩; have c3lt := g3.lt; have G3 := Lib.hid g3; have G4 := Lib.hid g4; clear g3 g4) | (go_at_call 103; refine (errInvalid_any (x := x.fetch.consume) (G3.out.alloc _) (consume_same.multi.trans HM2.out) _ HSZ.out).mono ?_; rintro e w4 ⟨rfl, ve4, g5, g6⟩))
        go_end0
        rw [HE.out]
        exact ⟨rfl, _, ve4, g5, (((G2.out.trans G4.out).alloc _).trans g6)⟩
      | true =>
        by_cases hd : x.fetch.delim = c
        · have HE : RowKit.Hid (x.fetch.delimS c = x.fetch.consume) := by show _ = _; unfold Lx.delimS; rw [if_neg (by simp [hok2, hd])]
          have d1 : (x.fetch.delim == c) = true := by simp [hd]
          have d2 : (x.fetch.delim != c) = false := by simp [hd]
          clear hd
          go_enter Tryz.func87, Tryz.ntmps87
          go_wp2_with (first | (go_at_call 47; with_reducible refine (ok_any G1.out).mono ?_; rintro e w2 ⟨rfl, rfl⟩) | (go_at_call 47; refine (ok_any H.out).mono ?_; rintro e w' ⟨rfl, rfl⟩) | (go_at_call 86; refine (fetchToken_any H.out HW.out).mono ?_; rintro e w1 ⟨rfl, vt1, ve1, g1, g2⟩; have z7 := g1.c7; have G1 := Lib.hid g1; have G2 := Lib.hid g2; clear g1 g2) | (go_at_call 104; refine (consume_any G1.out).mono ?_; rintro e w3 ⟨rfl, g3, g4⟩; have c3lt := g3.lt; have G3 := Lib.hid g3; have G4 := Lib.hid g4; clear g3 g4))
          go_end0
          rw [HE.out]
          exact ⟨rfl, _, _, G3.out, G2.out.trans G4.out⟩
        · have HE : RowKit.Hid (x.fetch.delimS c = x.fetch.consume.fail) := by show _ = _; unfold Lx.delimS; rw [if_pos (by simp [hok2, hd])]
          have d1 : (x.fetch.delim == c) = false := by simp [hd]
          have d2 : (x.fetch.delim != c) = true := by simp [hd]
          clear hd
          go_enter Tryz.func87, Tryz.ntmps87
          go_wp2_with (first | (go_at_call 47; with_reducible refine (ok_any G1.out).mono ?_; rintro e w2 ⟨rfl, rfl⟩) | (go_at_call 47; refine (ok_any H.out).mono ?_; rintro e w' ⟨rfl, rfl⟩) | (go_at_call 86; refine (fetchToken_any H.out HW.out).mono ?_; rintro e w1 ⟨rfl, vt1, ve1, g1, g2⟩; have z7 := g1.c7; have G1 := Lib.hid g1; have G2 := Lib.hid g2; clear g1 g2) | (go_at_call 104; refine (consume_any G1.out).mono ?_; rintro e w3 ⟨rfl, g3, g4⟩; have c3lt := g3.lt; have G3 := Lib.hid g3; have G4 := Lib.hid g4; clear g3 g4) | (go_at_call 103; refine (errInvalid_any (x := x.fetch.consume) (G3.out.alloc _) (consume_same.multi.trans HM2.out) _ HSZ.out).mono ?_; rintro e w4 ⟨rfl, ve4, g5, g6⟩))
          go_end0
          rw [HE.out]
          exact ⟨rfl, _, ve4, g5, (((G2.out.trans G4.out).alloc _).trans g6)⟩
set_option maxHeartbeats 4000000 in
set_option maxRecDepth 100000 in
theorem null_any (h : LexAt w b ae ao x vd vt ve vm) (hw : x.Wf) (hm : x.multi = false) :
    Calls Tryz.prog 49 #[.pointer (some ⟨b, 0, none⟩)] w fun e w' => e = .returned (.tuple #[]) ∧ NumDone w b ae ao x.null vd vm w' := by
  unfold Lx.null
  have H := Lib.hid h
  have HW := Lib.hid hw
  by_cases hk : x.kind = 0
  case neg =>
    rw [peek_kept (by simp [hk])]
    have n1 : ((x.kind : Int) == 0) = false := beq_eq_false_iff_ne.2 (by omega)
    have HM := Lib.hid hm
    have HKD : RowKit.Hid (x.kind ≠ 0) := hk
    have c3 := h.c3
    clear h hw hk hm
    cases hok2 : x.ok with
    | false =>
      have HE : RowKit.Hid (x.nullS = x.fail.consume) := by show _ = _; unfold Lx.nullS; rw [if_pos (by simp [hok2])]
      go_enter Tryz.func49, Tryz.ntmps49
      go_wp2_with (first | (go_at_call 47; refine (ok_any H.out).mono ?_; rintro e w' ⟨rfl, rfl⟩) | (go_at_call 103; refine (errInvalid_any H.out HM.out _ (by decide)).mono ?_; rintro e w4 ⟨rfl, ve4, g5, g6⟩; have G5 := Lib.hid g5; have G6 := Lib.hid g6; clear g5 g6) | (go_at_call 104; refine (consume_any G5.out).mono ?_; rintro e w3 ⟨rfl, g3, g4⟩))
      go_end0
      rw [HE.out]
      exact ⟨rfl, _, _, g3, ((Kept.refl b w).trans G6.out).trans g4⟩
    | true =>
      by_cases hd : x.kind = 5
      · have HE : RowKit.Hid (x.nullS = x.consume) := by show _ = _; unfold Lx.nullS; rw [if_neg (by simp [hok2, hd])]
        have d1 : ((x.kind : Int) == 5) = true := by simp; omega
        have d2 : ((x.kind : Int) != 5) = false := by simp; omega
        clear hd
        go_enter Tryz.func49, Tryz.ntmps49
        go_wp2_with (first | (go_at_call 47; refine (ok_any H.out).mono ?_; rintro e w' ⟨rfl, rfl⟩) | (go_at_call 104; refine (consume_any H.out).mono ?_; rintro e w3 ⟨rfl, g3, g4⟩))
        go_end0
        rw [HE.out]
        exact ⟨rfl, _, _, g3, (Kept.refl b w).trans g4⟩
      · have d1 : ((x.kind : Int) == 5) = false := beq_eq_false_iff_ne.2 (by omega)
        have d2 : ((x.kind : Int) != 5) = true := bne_iff_ne.2 (by omega)
        have HE : RowKit.Hid (x.nullS = x.fail.consume) := by show _ = _; unfold Lx.nullS; rw [if_pos (by simp [hok2, hd])]
        clear hd
        go_enter Tryz.func49, Tryz.ntmps49
        go_wp2_with (first | (go_at_call 47; refine (ok_any H.out).mono ?_; rintro e w' ⟨rfl, rfl⟩) | (go_at_call 103; refine (errInvalid_any H.out HM.out _ (by decide)).mono ?_; rintro e w4 ⟨rfl, ve4, g5, g6⟩; have G5 := Lib.hid g5; have G6 := Lib.hid g6; clear g5 g6) | (go_at_call 104; refine (consume_any G5.out).mono ?_; rintro e w3 ⟨rfl, g3, g4⟩))
        go_end0
        rw [HE.out]
        exact ⟨rfl, _, _, g3, ((Kept.refl b w).trans G6.out).trans g4⟩
  case pos =>
    have c3 := h.c3
    rw [hk] at c3
    have HM := Lib.hid hm
    cases hok : x.ok with
    | false =>
      rw [peek_kept (by simp [hok])]
      have HKD := Lib.hid hk
      clear h hw hm
      have HE : RowKit.Hid (x.nullS = x.fail.consume) := by show _ = _; unfold Lx.nullS; rw [if_pos (by simp [hok])]
      go_enter Tryz.func49, Tryz.ntmps49
      go_wp2_with (first | (go_at_call 47; refine (ok_any H.out).mono ?_; rintro e w' ⟨rfl, rfl⟩) | (go_at_call 103; refine (errInvalid_any H.out HM.out _ (by decide)).mono ?_; rintro e w4 ⟨rfl, ve4, g5, g6⟩; have G5 := Lib.hid g5; have G6 := Lib.hid g6; clear g5 g6) | (go_at_call 104; refine (consume_any G5.out).mono ?_; rintro e w3 ⟨rfl, g3, g4⟩))
      go_end0
      rw [HE.out]
      exact ⟨rfl, _, _, g3, ((Kept.refl b w).trans G6.out).trans g4⟩
    | true =>
      rw [peek_new (by simp [hok, hk])]
      have HM2 : RowKit.Hid (x.fetch.multi = false) := fetch_same.multi.trans hm
      clear h hw hk hm
      cases hok2 : x.fetch.ok with
      | false =>
        have HE : RowKit.Hid (x.fetch.nullS = x.fetch.fail.consume) := by show _ = _; unfold Lx.nullS; rw [if_pos (by simp [hok2])]
        go_enter Tryz.func49, Tryz.ntmps49
        go_wp2_with (first | (go_at_call 47; with_reducible refine (ok_any G1.out).mono ?_; rintro e w2 ⟨rfl, rfl⟩) | (go_at_call 47; refine (ok_any H.out).mono ?_; rintro e w' ⟨rfl, rfl⟩) | (go_at_call 86; refine (fetchToken_any H.out HW.out).mono ?_; rintro e w1 ⟨rfl, vt1, ve1, g1, g2⟩; have z3 := g1.c3; have G1 := Lib.hid g1; have G2 := Lib.hid g2; clear g1 g2) | (go_at_call 103; refine (errInvalid_any G1.out HM2.out _ (by decide)).mono ?_; rintro e w4 ⟨rfl, ve4, g5, g6⟩; have G5 := Lib.hid g5; have G6 := Lib.hid g6; clear g5 g6) | (go_at_call 104; refine (consume_any G5.out).mono ?_; rintro e w3 ⟨rfl, g3, g4⟩))
        go_end0
        rw [HE.out]
        exact ⟨rfl, _, _, g3, (G2.out.trans G6.out).trans g4⟩
      | true =>
        by_cases hd : x.fetch.kind = 5
        · have HE : RowKit.Hid (x.fetch.nullS = x.fetch.consume) := by show _ = _; unfold Lx.nullS; rw [if_neg (by simp [hok2, hd])]
          have d1 : ((x.fetch.kind : Int) == 5) = true := by simp; omega
          have d2 : ((x.fetch.kind : Int) != 5) = false := by simp; omega
          clear hd
          go_enter Tryz.func49, Tryz.ntmps49
          go_wp2_with (first | (go_at_call 47; with_reducible refine (ok_any G1.out).mono ?_; rintro e w2 ⟨rfl, rfl⟩) | (go_at_call 47; refine (ok_any H.out).mono ?_; rintro e w' ⟨rfl, rfl⟩) | (go_at_call 86; refine (fetchToken_any H.out HW.out).mono ?_; rintro e w1 ⟨rfl, vt1, ve1, g1, g2⟩; have z3 := g1.c3; have G1 := Lib.hid g1; have G2 := Lib.hid g2; clear g1 g2) | (go_at_call 104; refine (consume_any G1.out).mono ?_; rintro e w3 ⟨rfl, g3, g4⟩))
          go_end0
          rw [HE.out]
          exact ⟨rfl, _, _, g3, G2.out.trans g4⟩
        · have d1 : ((x.fetch.kind : Int) == 5) = false := beq_eq_false_iff_ne.2 (by omega)
          have d2 : ((x.fetch.kind : Int) != 5) = true := bne_iff_ne.2 (by omega)
          have HE : RowKit.Hid (x.fetch.nullS = x.fetch.fail.consume) := by show _ = _; unfold Lx.nullS; rw [if_pos (by simp [hok2, hd])]
          clear hd
          go_enter Tryz.func49, Tryz.ntmps49
          go_wp2_with (first | (go_at_call 47; with_reducible refine (ok_any G1.out).mono ?_; rintro e w2 ⟨rfl, rfl⟩) | (go_at_call 47; refine (ok_any H.out).mono ?_; rintro e w' ⟨rfl, rfl⟩) | (go_at_call 86; refine (fetchToken_any H.out HW.out).mono ?_; rintro e w1 ⟨rfl, vt1, ve1, g1, g2⟩; have z3 := g1.c3; have G1 := Lib.hid g1; have G2 := Lib.hid g2; clear g1 g2) | (go_at_call 103; refine (errInvalid_any G1.out HM2.out _ (by decide)).mono ?_; rintro e w4 ⟨rfl, ve4, g5, g6⟩; have G5 := Lib.hid g5; have G6 := Lib.hid g6; clear g5 g6) | (go_at_call 104; refine (consume_any G5.out).mono ?_; rintro e w3 ⟨rfl, g3, g4⟩))
          go_end0
          rw [HE.out]
          exact ⟨rfl, _, _, g3, (G2.out.trans G6.out).trans g4⟩
set_option maxHeartbeats 4000000 in
set_option maxRecDepth 100000 in
theorem bool_any (h : LexAt w b ae ao x vd vt ve vm) (hw : x.Wf) (hm : x.multi = false) :
    Calls Tryz.prog 50 #[.pointer (some ⟨b, 0, none⟩)] w fun e w' => e = .returned (.bool x.boolV) ∧ NumDone w b ae ao x.bool vd vm w' := by
  unfold Lx.bool Lx.boolV
  have H := Lib.hid h
  have HW := Lib.hid hw
  by_cases hk : x.kind = 0
  case neg =>
    rw [peek_kept (by simp [hk])]
    have n1 : ((x.kind : Int) == 0) = false := beq_eq_false_iff_ne.2 (by omega)
    have HM := Lib.hid hm
    have HKD : RowKit.Hid (x.kind ≠ 0) := hk
    have c3 := h.c3
    have c4 := h.c4
    clear h hw hk hm
    cases hok2 : x.ok with
    | false =>
      have HE : RowKit.Hid (x.boolS = x.fail) := by show _ = _; unfold Lx.boolS; rw [if_pos (by simp [hok2])]
      have HV : RowKit.Hid (x.boolR = false) := by show _ = _; unfold Lx.boolR; rw [if_pos (by simp [hok2])]
      go_enter Tryz.func50, Tryz.ntmps50
      go_wp2_with (first | (go_at_call 47; refine (ok_any H.out).mono ?_; rintro e w' ⟨rfl, rfl⟩) | (go_at_call 103; refine (errInvalid_any H.out HM.out _ (by decide)).mono ?_; rintro e w4 ⟨rfl, ve4, g5, g6⟩))
      go_ret
      rw [HE.out, HV.out]
      exact ⟨rfl, _, ve4, g5, (Kept.refl b w).trans g6⟩
    | true =>
      by_cases hd : x.kind = 4
      · have HE : RowKit.Hid (x.boolS = x.consume) := by show _ = _; unfold Lx.boolS; rw [if_neg (by simp [hok2, hd])]
        have HV : RowKit.Hid (x.boolR = x.bv) := by show _ = _; unfold Lx.boolR; rw [if_neg (by simp [hok2, hd])]
        have d1 : ((x.kind : Int) == 4) = true := by simp; omega
        have d2 : ((x.kind : Int) != 4) = false := by simp; omega
        clear hd
        go_enter Tryz.func50, Tryz.ntmps50
        go_wp2_with (first | (go_at_call 47; refine (ok_any H.out).mono ?_; rintro e w' ⟨rfl, rfl⟩) | (go_at_call 104; refine (consume_any H.out).mono ?_; rintro e w3 ⟨rfl, g3, g4⟩))
        go_ret
        rw [HE.out, HV.out]
        exact ⟨rfl, _, _, g3, (Kept.refl b w).trans g4⟩
      · have d1 : ((x.kind : Int) == 4) = false := beq_eq_false_iff_ne.2 (by omega)
        have d2 : ((x.kind : Int) != 4) = true := bne_iff_ne.2 (by omega)
        have HE : RowKit.Hid (x.boolS = x.fail) := by show _ = _; unfold Lx.boolS; rw [if_pos (by simp [hok2, hd])]
        have HV : RowKit.Hid (x.boolR = false) := by show _ = _; unfold Lx.boolR; rw [if_pos (by simp [hok2, hd])]
        clear hd
        go_enter Tryz.func50, Tryz.ntmps50
        go_wp2_with (first | (go_at_call 47; refine (ok_any H.out).mono ?_; rintro e w' ⟨rfl, rfl⟩) | (go_at_call 103; refine (errInvalid_any H.out HM.out _ (by decide)).mono ?_; rintro e w4 ⟨rfl, ve4, g5, g6⟩))
        go_ret
        rw [HE.out, HV.out]
        exact ⟨rfl, _, ve4, g5, (Kept.refl b w).trans g6⟩
  case pos =>
    have c3 := h.c3
    rw [hk] at c3
    have c4 := h.c4
    have HM := Lib.hid hm
    cases hok : x.ok with
    | false =>
      rw [peek_kept (by simp [hok])]
      have HKD := Lib.hid hk
      clear h hw hm
      have HE : RowKit.Hid (x.boolS = x.fail) := by show _ = _; unfold Lx.boolS; rw [if_pos (by simp [hok])]
      have HV : RowKit.Hid (x.boolR = false) := by show _ = _; unfold Lx.boolR; rw [if_pos (by simp [hok])]
      go_enter Tryz.func50, Tryz.ntmps50
      go_wp2_with (first | (go_at_call 47; refine (ok_any H.out).mono ?_; rintro e w' ⟨rfl, rfl⟩) | (go_at_call 103; refine (errInvalid_any H.out HM.out _ (by decide)).mono ?_; rintro e w4 ⟨rfl, ve4, g5, g6⟩))
      go_ret
      rw [HE.out, HV.out]
      exact ⟨rfl, _, ve4, g5, (Kept.refl b w).trans g6⟩
    | true =>
      rw [peek_new (by simp [hok, hk])]
      have HM2 : RowKit.Hid (x.fetch.multi = false) := fetch_same.multi.trans hm
      clear h hw hk hm c4
      cases hok2 : x.fetch.ok with
      | false =>
        have HE : RowKit.Hid (x.fetch.boolS = x.fetch.fail) := by show _ = _; unfold Lx.boolS; rw [if_pos (by simp [hok2])]
        have HV : RowKit.Hid (x.fetch.boolR = false) := by show _ = _; unfold Lx.boolR; rw [if_pos (by simp [hok2])]
        go_enter Tryz.func50, Tryz.ntmps50
        go_wp2_with (first | (go_at_call 47; with_reducible refine (ok_any G1.out).mono ?_; rintro e w2 ⟨rfl, rfl⟩) | (go_at_call 47; refine (ok_any H.out).mono ?_; rintro e w' ⟨rfl, rfl⟩) | (go_at_call 86; refine (fetchToken_any H.out HW.out).mono ?_; rintro e w1 ⟨rfl, vt1, ve1, g1, g2⟩; have z3 := g1.c3; have z4 := g1.c4; have G1 := Lib.hid g1; have G2 := Lib.hid g2; clear g1 g2) | (go_at_call 103; refine (errInvalid_any G1.out HM2.out _ (by decide)).mono ?_; rintro e w4 ⟨rfl, ve4, g5, g6⟩))
        go_ret
        rw [HE.out, HV.out]
        exact ⟨rfl, _, ve4, g5, G2.out.trans g6⟩
      | true =>
        by_cases hd : x.fetch.kind = 4
        · have HE : RowKit.Hid (x.fetch.boolS = x.fetch.consume) := by show _ = _; unfold Lx.boolS; rw [if_neg (by simp [hok2, hd])]
          have HV : RowKit.Hid (x.fetch.boolR = x.fetch.bv) := by show _ = _; unfold Lx.boolR; rw [if_neg (by simp [hok2, hd])]
          have d1 : ((x.fetch.kind : Int) == 4) = true := by simp; omega
          have d2 : ((x.fetch.kind : Int) != 4) = false := by simp; omega
          clear hd
          go_enter Tryz.func50, Tryz.ntmps50
          go_wp2_with (first | (go_at_call 47; with_reducible refine (ok_any G1.out).mono ?_; rintro e w2 ⟨rfl, rfl⟩) | (go_at_call 47; refine (ok_any H.out).mono ?_; rintro e w' ⟨rfl, rfl⟩) | (go_at_call 86; refine (fetchToken_any H.out HW.out).mono ?_; rintro e w1 ⟨rfl, vt1, ve1, g1, g2⟩; have z3 := g1.c3; have z4 := g1.c4; have G1 := Lib.hid g1; have G2 := Lib.hid g2; clear g1 g2) | (go_at_call 104; refine (consume_any G1.out).mono ?_; rintro e w3 ⟨rfl, g3, g4⟩))
          go_ret
          rw [HE.out, HV.out]
          exact ⟨rfl, _, _, g3, G2.out.trans g4⟩
        · have d1 : ((x.fetch.kind : Int) == 4) = false := beq_eq_false_iff_ne.2 (by omega)
          have d2 : ((x.fetch.kind : Int) != 4) = true := bne_iff_ne.2 (by omega)
          have HE : RowKit.Hid (x.fetch.boolS = x.fetch.fail) := by show _ = _; unfold Lx.boolS; rw [if_pos (by simp [hok2, hd])]
          have HV : RowKit.Hid (x.fetch.boolR = false) := by show _ = _; unfold Lx.boolR; rw [if_pos (by simp [hok2, hd])]
          clear hd
          go_enter Tryz.func50, Tryz.ntmps50
          go_wp2_with (first | (go_at_call 47; with_reducible refine (ok_any G1.out).mono ?_; rintro e w2 ⟨rfl, rfl⟩) | (go_at_call 47; refine (ok_any H.out).mono ?_; rintro e w' ⟨rfl, rfl⟩) | (go_at_call 86; refine (fetchToken_any H.out HW.out).mono ?_; rintro e w1 ⟨rfl, vt1, ve1, g1, g2⟩; have z3 := g1.c3; have z4 := g1.c4; have G1 := Lib.hid g1; have G2 := Lib.hid g2; clear g1 g2) | (go_at_call 103; refine (errInvalid_any G1.out HM2.out _ (by decide)).mono ?_; rintro e w4 ⟨rfl, ve4, g5, g6⟩))
          go_ret
          rw [HE.out, HV.out]
          exact ⟨rfl, _, ve4, g5, G2.out.trans g6⟩
set_option maxHeartbeats 4000000 in
set_option maxRecDepth 100000 in
theorem current_any (h : LexAt w b ae ao x vd vt ve vm) (hw : x.Wf) (hm : x.multi = false) :
    Calls Tryz.prog 46 #[.pointer (some ⟨b, 0, none⟩)] w fun e w' => e = .returned (.int .u8 x.current) ∧ NumDone w b ae ao x.peek vd vm w' := by
  unfold Lx.current
  have H := Lib.hid h
  have HW := Lib.hid hw
  by_cases hk : x.kind = 0
  case neg =>
    rw [peek_kept (by simp [hk])]
    have n1 : ((x.kind : Int) == 0) = false := beq_eq_false_iff_ne.2 (by omega)
    have HM := Lib.hid hm
    have HKD : RowKit.Hid (x.kind ≠ 0) := hk
    have c3 := h.c3
    clear h hw hk hm
    cases hok2 : x.ok with
    | false =>
      have HE : RowKit.Hid (x.currentR = 0) := by show _ = _; unfold Lx.currentR; rw [hok2]; rfl
      go_enter Tryz.func46, Tryz.ntmps46
      go_wp2_with (first | (go_at_call 47; refine (ok_any H.out).mono ?_; rintro e w' ⟨rfl, rfl⟩))
      go_ret
      rw [HE.out]
      exact ⟨rfl, _, _, H.out, (Kept.refl b w)⟩
    | true =>
      have HE : RowKit.Hid (x.currentR = x.kind) := by show _ = _; unfold Lx.currentR; rw [hok2]; rfl
      go_enter Tryz.func46, Tryz.ntmps46
      go_wp2_with (first | (go_at_call 47; refine (ok_any H.out).mono ?_; rintro e w' ⟨rfl, rfl⟩))
      go_ret
      rw [HE.out]
      exact ⟨rfl, _, _, H.out, (Kept.refl b w)⟩
  case pos =>
    have c3 := h.c3
    rw [hk] at c3
    have HM := Lib.hid hm
    cases hok : x.ok with
    | false =>
      rw [peek_kept (by simp [hok])]
      have HKD := Lib.hid hk
      clear h hw hm
      have HE : RowKit.Hid (x.currentR = 0) := by show _ = _; unfold Lx.currentR; rw [hok]; rfl
      go_enter Tryz.func46, Tryz.ntmps46
      go_wp2_with (first | (go_at_call 47; refine (ok_any H.out).mono ?_; rintro e w' ⟨rfl, rfl⟩))
      go_ret
      rw [HE.out]
      exact ⟨rfl, _, _, H.out, (Kept.refl b w)⟩
    | true =>
      rw [peek_new (by simp [hok, hk])]
      have HM2 : RowKit.Hid (x.fetch.multi = false) := fetch_same.multi.trans hm
      clear h hw hk hm
      cases hok2 : x.fetch.ok with
      | false =>
        have HE : RowKit.Hid (x.fetch.currentR = 0) := by show _ = _; unfold Lx.currentR; rw [hok2]; rfl
        go_enter Tryz.func46, Tryz.ntmps46
        go_wp2_with (first | (go_at_call 47; with_reducible refine (ok_any G1.out).mono ?_; rintro e w2 ⟨rfl, rfl⟩) | (go_at_call 47; refine (ok_any H.out).mono ?_; rintro e w' ⟨rfl, rfl⟩) | (go_at_call 86; refine (fetchToken_any H.out HW.out).mono ?_; rintro e w1 ⟨rfl, vt1, ve1, g1, g2⟩; have z3 := g1.c3; have G1 := Lib.hid g1; have G2 := Lib.hid g2; clear g1 g2))
        go_ret
        rw [HE.out]
        exact ⟨rfl, _, _, G1.out, G2.out⟩
      | true =>
        have HE : RowKit.Hid (x.fetch.currentR = x.fetch.kind) := by show _ = _; unfold Lx.currentR; rw [hok2]; rfl
        go_enter Tryz.func46, Tryz.ntmps46
        go_wp2_with (first | (go_at_call 47; with_reducible refine (ok_any G1.out).mono ?_; rintro e w2 ⟨rfl, rfl⟩) | (go_at_call 47; refine (ok_any H.out).mono ?_; rintro e w' ⟨rfl, rfl⟩) | (go_at_call 86; refine (fetchToken_any H.out HW.out).mono ?_; rintro e w1 ⟨rfl, vt1, ve1, g1, g2⟩; have z3 := g1.c3; have G1 := Lib.hid g1; have G2 := Lib.hid g2; clear g1 g2))
        go_ret
        rw [HE.out]
        exact ⟨rfl, _, _, G1.out, G2.out⟩
end
end Go.Proofs.YtaecbclonmhbcaaGreatDoor
