/- The lexer's reading of a number's bytes. -/
import Derived.Test.YtaecbclonmhbcaaGreatDoorTok
namespace Go.Proofs.YtaecbclonmhbcaaGreatDoor
open Go.RowKit

namespace Lx
def numS (x : Lx) : Lx := if !x.ok || x.kind != 3 then x.fail else x.consume
def numR (x : Lx) : ByteArray := if !x.ok || x.kind != 3 then ⟨#[]⟩ else strOfNums x.tok
def num (x : Lx) : Lx := x.peek.numS
def numV (x : Lx) : ByteArray := x.peek.numR
end Lx

theorem bytesToStr_any {w : World} {A : Nat → Prop} {v : Value} {l : List Int} (h : BytesAt w A v l) :
    Calls Tryz.prog 110 #[v] w fun e w' => e = .returned (.string (strOfNums l)) ∧ w = w' := by
  have hcv := run_bytes_str h 0 9 Tryz.underlying9
  have hcv' : (convert 22 9 v).run Tryz.prog w = .ok (.string (strOfNums l)) w := hcv
  clear hcv h
  go_enter Tryz.func110, Tryz.ntmps110
  go_wp2
  go_ret
  exact ⟨rfl, rfl⟩

section
variable {w : World} {b : Nat} {ae : Sur} {ao : Addr} {x : Lx} {vd vt ve vm : Value}

set_option maxHeartbeats 4000000 in
set_option maxRecDepth 100000 in
theorem number_any (h : LexAt w b ae ao x vd vt ve vm) (hw : x.Wf) (hm : x.multi = false) :
    Calls Tryz.prog 106 #[.pointer (some ⟨b, 0, none⟩)] w fun e w' => e = .returned (.string x.numV) ∧ NumDone w b ae ao x.num vd vm w' := by
  unfold Lx.num Lx.numV
  have H := Lib.hid h
  have HW := Lib.hid hw
  by_cases hk : x.kind = 0
  case neg =>
    rw [peek_kept (by simp [hk])]
    have n1 : ((x.kind : Int) == 0) = false := beq_eq_false_iff_ne.2 (by omega)
    have HM := Lib.hid hm
    have HKD : RowKit.Hid (x.kind ≠ 0) := hk
    have c3 := h.c3
    have c6 := h.c6
    clear h hw hk hm
    cases hok2 : x.ok with
    | false =>
      have HE : RowKit.Hid (x.numS = x.fail) := by show _ = _; unfold Lx.numS; rw [if_pos (by simp [hok2])]
      have HV : RowKit.Hid (x.numR = ⟨#[]⟩) := by show _ = _; unfold Lx.numR; rw [if_pos (by simp [hok2])]
      go_enter Tryz.func106, Tryz.ntmps106
      go_wp2_with (first | (go_at_call 47; refine (ok_any H.out).mono ?_; rintro e w' ⟨rfl, rfl⟩) | (go_at_call 103; refine (errInvalid_any H.out HM.out _ (by decide)).mono ?_; rintro e w4 ⟨rfl, ve4, g5, g6⟩))
      go_ret
      rw [HE.out, HV.out]
      exact ⟨rfl, _, ve4, g5, (Kept.refl b w).trans g6⟩
    | true =>
      by_cases hd : x.kind = 3
      · have HE : RowKit.Hid (x.numS = x.consume) := by show _ = _; unfold Lx.numS; rw [if_neg (by simp [hok2, hd])]
        have HV : RowKit.Hid (x.numR = strOfNums x.tok) := by show _ = _; unfold Lx.numR; rw [if_neg (by simp [hok2, hd])]
        have d1 : ((x.kind : Int) == 3) = true := by simp; omega
        have d2 : ((x.kind : Int) != 3) = false := by simp; omega
        clear hd
        go_enter Tryz.func106, Tryz.ntmps106
        go_wp2_with (first | (go_at_call 47; refine (ok_any H.out).mono ?_; rintro e w' ⟨rfl, rfl⟩) | (go_at_call 110; refine (bytesToStr_any H.out.tok).mono ?_; rintro e w5 ⟨rfl, rfl⟩) | (go_at_call 104; refine (consume_any H.out).mono ?_; rintro e w3 ⟨rfl, g3, g4⟩))
        go_ret
        rw [HE.out, HV.out]
        exact ⟨rfl, _, _, g3, (Kept.refl b w).trans g4⟩
      · have d1 : ((x.kind : Int) == 3) = false := beq_eq_false_iff_ne.2 (by omega)
        have d2 : ((x.kind : Int) != 3) = true := bne_iff_ne.2 (by omega)
        have HE : RowKit.Hid (x.numS = x.fail) := by show _ = _; unfold Lx.numS; rw [if_pos (by simp [hok2, hd])]
        have HV : RowKit.Hid (x.numR = ⟨#[]⟩) := by show _ = _; unfold Lx.numR; rw [if_pos (by simp [hok2, hd])]
        clear hd
        go_enter Tryz.func106, Tryz.ntmps106
        go_wp2_with (first | (go_at_call 47; refine (ok_any H.out).mono ?_; rintro e w' ⟨rfl, rfl⟩) | (go_at_call 103; refine (errInvalid_any H.out HM.out _ (by decide)).mono ?_; rintro e w4 ⟨rfl, ve4, g5, g6⟩))
        go_ret
        rw [HE.out, HV.out]
        exact ⟨rfl, _, ve4, g5, (Kept.refl b w).trans g6⟩
  case pos =>
    have c3 := h.c3
    rw [hk] at c3
    have c6 := h.c6
    have HM := Lib.hid hm
    cases hok : x.ok with
    | false =>
      rw [peek_kept (by simp [hok])]
      have HKD := Lib.hid hk
      clear h hw hm
      have HE : RowKit.Hid (x.numS = x.fail) := by show _ = _; unfold Lx.numS; rw [if_pos (by simp [hok])]
      have HV : RowKit.Hid (x.numR = ⟨#[]⟩) := by show _ = _; unfold Lx.numR; rw [if_pos (by simp [hok])]
      go_enter Tryz.func106, Tryz.ntmps106
      go_wp2_with (first | (go_at_call 47; refine (ok_any H.out).mono ?_; rintro e w' ⟨rfl, rfl⟩) | (go_at_call 103; refine (errInvalid_any H.out HM.out _ (by decide)).mono ?_; rintro e w4 ⟨rfl, ve4, g5, g6⟩))
      go_ret
      rw [HE.out, HV.out]
      exact ⟨rfl, _, ve4, g5, (Kept.refl b w).trans g6⟩
    | true =>
      rw [peek_new (by simp [hok, hk])]
      have HM2 : RowKit.Hid (x.fetch.multi = false) := fetch_same.multi.trans hm
      clear h hw hk hm c6
      cases hok2 : x.fetch.ok with
      | false =>
        have HE : RowKit.Hid (x.fetch.numS = x.fetch.fail) := by show _ = _; unfold Lx.numS; rw [if_pos (by simp [hok2])]
        have HV : RowKit.Hid (x.fetch.numR = ⟨#[]⟩) := by show _ = _; unfold Lx.numR; rw [if_pos (by simp [hok2])]
        go_enter Tryz.func106, Tryz.ntmps106
        go_wp2_with (first | (go_at_call 47; with_reducible refine (ok_any G1.out).mono ?_; rintro e w2 ⟨rfl, rfl⟩) | (go_at_call 47; refine (ok_any H.out).mono ?_; rintro e w' ⟨rfl, rfl⟩) | (go_at_call 86; refine (fetchToken_any H.out HW.out).mono ?_; rintro e w1 ⟨rfl, vt1, ve1, g1, g2⟩; have z3 := g1.c3; have z6 := g1.c6; have G1 := Lib.hid g1; have G2 := Lib.hid g2; clear g1 g2) | (go_at_call 103; refine (errInvalid_any G1.out HM2.out _ (by decide)).mono ?_; rintro e w4 ⟨rfl, ve4, g5, g6⟩))
        go_ret
        rw [HE.out, HV.out]
        exact ⟨rfl, _, ve4, g5, G2.out.trans g6⟩
      | true =>
        by_cases hd : x.fetch.kind = 3
        · have HE : RowKit.Hid (x.fetch.numS = x.fetch.consume) := by show _ = _; unfold Lx.numS; rw [if_neg (by simp [hok2, hd])]
          have HV : RowKit.Hid (x.fetch.numR = strOfNums x.fetch.tok) := by show _ = _; unfold Lx.numR; rw [if_neg (by simp [hok2, hd])]
          have d1 : ((x.fetch.kind : Int) == 3) = true := by simp; omega
          have d2 : ((x.fetch.kind : Int) != 3) = false := by simp; omega
          clear hd
          go_enter Tryz.func106, Tryz.ntmps106
          go_wp2_with (first | (go_at_call 47; with_reducible refine (ok_any G1.out).mono ?_; rintro e w2 ⟨rfl, rfl⟩) | (go_at_call 47; refine (ok_any H.out).mono ?_; rintro e w' ⟨rfl, rfl⟩) | (go_at_call 86; refine (fetchToken_any H.out HW.out).mono ?_; rintro e w1 ⟨rfl, vt1, ve1, g1, g2⟩; have z3 := g1.c3; have z6 := g1.c6; have G1 := Lib.hid g1; have G2 := Lib.hid g2; clear g1 g2) | (go_at_call 110; refine (bytesToStr_any G1.out.tok).mono ?_; rintro e w5 ⟨rfl, rfl⟩) | (go_at_call 104; refine (consume_any G1.out).mono ?_; rintro e w3 ⟨rfl, g3, g4⟩))
          go_ret
          rw [HE.out, HV.out]
          exact ⟨rfl, _, _, g3, G2.out.trans g4⟩
        · have d1 : ((x.fetch.kind : Int) == 3) = false := beq_eq_false_iff_ne.2 (by omega)
          have d2 : ((x.fetch.kind : Int) != 3) = true := bne_iff_ne.2 (by omega)
          have HE : RowKit.Hid (x.fetch.numS = x.fetch.fail) := by show _ = _; unfold Lx.numS; rw [if_pos (by simp [hok2, hd])]
          have HV : RowKit.Hid (x.fetch.numR = ⟨#[]⟩) := by show _ = _; unfold Lx.numR; rw [if_pos (by simp [hok2, hd])]
          clear hd
          go_enter Tryz.func106, Tryz.ntmps106
          go_wp2_with (first | (go_at_call 47; with_reducible refine (ok_any G1.out).mono ?_; rintro e w2 ⟨rfl, rfl⟩) | (go_at_call 47; refine (ok_any H.out).mono ?_; rintro e w' ⟨rfl, rfl⟩) | (go_at_call 86; refine (fetchToken_any H.out HW.out).mono ?_; rintro e w1 ⟨rfl, vt1, ve1, g1, g2⟩; have z3 := g1.c3; have z6 := g1.c6; have G1 := Lib.hid g1; have G2 := Lib.hid g2; clear g1 g2) | (go_at_call 103; refine (errInvalid_any G1.out HM2.out _ (by decide)).mono ?_; rintro e w4 ⟨rfl, ve4, g5, g6⟩))
          go_ret
          rw [HE.out, HV.out]
          exact ⟨rfl, _, ve4, g5, G2.out.trans g6⟩

end
end Go.Proofs.YtaecbclonmhbcaaGreatDoor
